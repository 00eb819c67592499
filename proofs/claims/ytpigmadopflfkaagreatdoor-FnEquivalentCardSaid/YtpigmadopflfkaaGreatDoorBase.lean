/- Laws on worlds that keep all but new blocks and a few named ones. No conditions. -/
import Derived.Test.YtpigmadopflfkaaGreatDoorProg
import Derived.WalkKit
import Derived.WalkLawsBesides
import Derived.WalkSmall
import Derived.Deep.LoopGhost
import Derived.Deep.CutRange
import Derived.Deep.QuietTactic
import Derived.BigQuiet
import Derived.RegionTactic
import Derived.BigRegion
import Derived.Outline
namespace Go.Proofs.YtpigmadopflfkaaGreatDoor
open Go.RowKit

/-- w' is w but for new blocks and for the blocks of S. -/
structure Kp (S : List Nat) (w w' : World) : Prop where
  os : w'.os = w.os
  tape : w'.tape = w.tape
  output : w'.output = w.output
  size : w.heap.size ≤ w'.heap.size
  block : ∀ k, k < w.heap.size → k ∉ S → w'.heap[k]? = w.heap[k]?

theorem Kp.refl (S : List Nat) (w : World) : Kp S w w := ⟨rfl, rfl, rfl, Nat.le_refl _, fun _ _ _ => rfl⟩
theorem Kp.trans {S : List Nat} {a b c : World} (h : Kp S a b) (k : Kp S b c) : Kp S a c :=
  ⟨k.os.trans h.os, k.tape.trans h.tape, k.output.trans h.output, Nat.le_trans h.size k.size,
    fun i hi hn => (k.block i (Nat.lt_of_lt_of_le hi h.size) hn).trans (h.block i hi hn)⟩
/-- What is new for a may be written on. -/
theorem Kp.trans' {S T : List Nat} {a b c : World} (h : Kp S a b) (k : Kp T b c) (hT : ∀ i, i ∈ T → i < a.heap.size → i ∈ S) : Kp S a c :=
  ⟨k.os.trans h.os, k.tape.trans h.tape, k.output.trans h.output, Nat.le_trans h.size k.size,
    fun i hi hn => (k.block i (Nat.lt_of_lt_of_le hi h.size) (fun e => hn (hT i e hi))).trans (h.block i hi hn)⟩
theorem Kp.mono {S T : List Nat} {a b : World} (h : Kp S a b) (hT : ∀ i, i ∈ S → i < a.heap.size → i ∈ T) : Kp T a b :=
  ⟨h.os, h.tape, h.output, h.size, fun i hi hn => h.block i hi (fun e => hn (hT i e hi))⟩
theorem Kp.drew {S : List Nat} {a w : World} (h : Kp S a w) : Kp S a w.drew := ⟨h.os, h.tape, h.output, h.size, h.block⟩
theorem Kp.alloc {S : List Nat} {a w : World} (h : Kp S a w) (o : Obj) : Kp S a (w.alloc o) :=
  h.trans ⟨rfl, rfl, rfl, by simp, fun k hk _ => Below.heap_alloc _ _ _ hk⟩
theorem Kp.setCell {S : List Nat} {a w : World} (h : Kp S a w) {p : Addr} (u : Value) (hp : p.block ∈ S ∨ a.heap.size ≤ p.block) : Kp S a (w.setCell p u) :=
  ⟨h.os, h.tape, h.output, by simpa using h.size, fun k hk hn => (Below.heap_setCell _ _ _ _ (fun e => by
      rcases hp with hp | hp
      · exact hn (e ▸ hp)
      · omega)).trans (h.block k hk hn)⟩
theorem Kp.grown {S : List Nat} {a w w' : World} {row : Option Nat} (h : Kp S a w) (hg : w.grownBy w' row) (hr : ∀ k, row = some k → k ∈ S ∨ a.heap.size ≤ k) : Kp S a w' :=
  ⟨hg.os.trans h.os, hg.tape.trans h.tape, hg.output.trans h.output, Nat.le_trans h.size hg.size, fun k hk hn =>
    (hg.block k (Nat.lt_of_lt_of_le hk h.size) (fun e => by
      rcases hr k e.symm with hp | hp
      · exact hn hp
      · omega)).trans (h.block k hk hn)⟩
theorem Kp.ofGrown {w w' : World} {row : Option Nat} (hg : w.grownBy w' row) : Kp row.toList w w' :=
  (Kp.refl _ w).grown hg (fun k hk => .inl (by simp [hk]))
theorem Kp.below {S : List Nat} {a w : World} (h : Kp S a w) {B : Nat} (hB : B ≤ a.heap.size) (hS : ∀ i, i ∈ S → B ≤ i) : Below B a w :=
  ⟨h.os, h.tape, h.output, h.size, fun k hk => h.block k (by omega) (fun e => by have := hS k e; omega)⟩
theorem Kp.at {S : List Nat} {a w : World} (h : Kp S a w) {b : Nat} {o : Obj} (hb : a.heap[b]? = some o) (hn : b ∉ S) : w.heap[b]? = some o :=
  (h.block b (Array.getElem?_eq_some_iff.1 hb).1 hn).trans hb
theorem Kp.owns {S : List Nat} {a w : World} (h : Kp S a w) {base e size : Nat} {v : Value} {n : Nat} {xs : List Value} (ho : a.ownsRow base e size v n xs)
    (hn : ∀ k, v.ownBlock = some k → k ∉ S) : w.ownsRow base e size v n xs := by
  refine ⟨ho.1, ?_⟩
  rcases ho.2 with hl | ⟨g, cap, cur, hv, hb, hg, r⟩
  · exact .inl hl
  · exact .inr ⟨g, cap, cur, hv, hb, h.at hg (hn g (by rw [hv]; rfl)), r⟩

theorem Hid.mk {p : Prop} (h : p) : Hid p := h
theorem Kp.drewN {S : List Nat} {a w : World} (h : Kp S a w) (n : Nat) : Kp S a (w.drewN n) := ⟨h.os, h.tape, h.output, h.size, h.block⟩
theorem own_setCell {w : World} {base e size : Nat} {v : Value} {n : Nat} {xs : List Value} (h : w.ownsRow base e size v n xs) {p : Addr}
    (hp : ∀ k, v.ownBlock = some k → k ≠ p.block) (u : Value) : (w.setCell p u).ownsRow base e size v n xs := by
  refine ⟨h.1, ?_⟩
  rcases h.2 with hl | ⟨g, cap, cur, hv, hb, hg, r⟩
  · exact .inl hl
  · exact .inr ⟨g, cap, cur, hv, hb, (Below.heap_setCell _ _ _ _ (hp g (by rw [hv]; rfl))).trans hg, r⟩
theorem lt_of_heap {w : World} {b : Nat} {o : Obj} (h : w.heap[b]? = some o) : b < w.heap.size := (Array.getElem?_eq_some_iff.1 h).1

/-- The cells of a block, as rewrite rules. -/
theorem blk_cell {w : World} {b : Nat} {cs : Array Value} {T : TypeId} (h : w.heap[b]? = some (.cells cs T)) (i : Nat) : w.cell? ⟨b, i, none⟩ = cs[i]? := by
  simp [World.cell?, h]
theorem blk_frozen {w : World} {b : Nat} {cs : Array Value} {T : TypeId} (h : w.heap[b]? = some (.cells cs T)) (i : Nat) : w.frozen? ⟨b, i, none⟩ = false := by
  simp [World.frozen?, h]
theorem heap_setCell_same {w : World} {b : Nat} {cs : Array Value} {T : TypeId} {f : Nat × Nat} (h : w.heap[b]? = some (.cells cs T f)) (i : Nat) (u : Value) :
    (w.setCell ⟨b, i, none⟩ u).heap[b]? = some (.cells (cs.setIfInBounds i u) T f) := by
  simp [World.setCell, Array.getElem?_modify, h]
theorem heap_setCell_other {w : World} {b : Nat} {a : Addr} (h : b ≠ a.block) (u : Value) : (w.setCell a u).heap[b]? = w.heap[b]? :=
  Below.heap_setCell _ _ _ _ h
theorem heap_alloc_lt {w : World} {b : Nat} (h : b < w.heap.size) (o : Obj) : (w.alloc o).heap[b]? = w.heap[b]? := Below.heap_alloc _ _ _ h
theorem heap_alloc_same (w : World) (o : Obj) : (w.alloc o).heap[w.heap.size]? = some o := heap_alloc_new w o
/-- The shape of an owned slice. -/
theorem own_shape {w : World} {base e size : Nat} {v : Value} {n : Nat} {xs : List Value} (h : w.ownsRow base e size v n xs) : ∃ a cap, v = .slice a n cap := by
  rcases h.2 with ⟨rfl, rfl⟩ | ⟨g, cap, cur, rfl, _⟩
  · exact ⟨none, 0, rfl⟩
  · exact ⟨some ⟨g, 0, none⟩, cap, rfl⟩
theorem own_cap {w : World} {base e size : Nat} {a : Option Addr} {cap n : Nat} {xs : List Value} (h : w.ownsRow base e size (.slice a n cap) n xs) : n ≤ cap ∧ cap ≤ 9223372036854775807 := by
  rcases h.2 with ⟨h1, rfl⟩ | ⟨g, cap', cur, hv, _, _, h1, h2, _⟩
  · cases h1; exact ⟨by omega, by omega⟩
  · cases hv; exact ⟨h1, by unfold maxLen at h2; omega⟩
/-- An owned slice with elements lies at the head of a block. -/
theorem own_some {w : World} {base e : Nat} {a : Option Addr} {cap n : Nat} {xs : List Value} (h : w.ownsRow base e 1 (.slice a n cap) n xs) (hn : 0 < n) :
    ∃ g, a = some ⟨g, 0, none⟩ ∧ base ≤ g ∧ g < w.heap.size ∧ ∀ (j : Nat) (u : Value), xs[j]? = some u → w.cell? ⟨g, j, none⟩ = some u := by
  rcases h.2 with ⟨h1, rfl⟩ | ⟨g, cap', cur, hv, hb, hg, h1, h2, h3, h4⟩
  · omega
  · cases hv
    refine ⟨g, rfl, hb, lt_of_heap hg, fun j u hu => ?_⟩
    have := h.cells (g := g) rfl j u hu
    have hadd : (⟨g, 0, none⟩ : Addr).add j = ⟨g, j, none⟩ := by unfold Addr.add; split <;> simp_all
    rwa [hadd] at this
theorem own_mono {w : World} {base base' e size : Nat} {v : Value} {n : Nat} {xs : List Value} (h : w.ownsRow base e size v n xs) (hb : base' ≤ base) : w.ownsRow base' e size v n xs := by
  refine ⟨h.1, ?_⟩
  rcases h.2 with hl | ⟨g, cap, cur, hv, hg, r⟩
  · exact .inl hl
  · exact .inr ⟨g, cap, cur, hv, by omega, r⟩
theorem info5 : (Tryz.prog.info? 5).map (fun i => (i.zero, i.size, i.bytes)) = some (some (.int .u8 0), 1, 1) := by kernel_rfl
/-- A store into an element of an owned row. -/
theorem own_setAt {w : World} {base e : Nat} {g cap n : Nat} {xs : List Value} (h : w.ownsRow base e 1 (.slice (some ⟨g, 0, none⟩) n cap) n xs) {i : Nat} (u : Value) :
    (w.setCell ⟨g, i, none⟩ u).ownsRow base e 1 (.slice (some ⟨g, 0, none⟩) n cap) n (xs.set i u) := by
  refine ⟨by simpa using h.1, ?_⟩
  rcases h.2 with ⟨h1, _⟩ | ⟨g', cap', cur, hv, hb, hg, h1, h2, h3, h4⟩
  · cases h1
  · cases hv
    refine .inr ⟨g, cap, cur.setIfInBounds i u, rfl, hb, heap_setCell_same hg i u, h1, h2, by simpa using h3, ?_⟩
    rw [Array.toList_setIfInBounds, List.take_set, h4]
theorem own_unfrozen {w : World} {base e : Nat} {g cap n : Nat} {xs : List Value} (h : w.ownsRow base e 1 (.slice (some ⟨g, 0, none⟩) n cap) n xs) (i : Nat) : w.frozen? ⟨g, i, none⟩ = false := by
  rcases h.2 with ⟨h1, _⟩ | ⟨g', cap', cur, hv, hb, hg, _⟩
  · cases h1
  · cases hv; exact blk_frozen hg i
/-- append of some one-cell elements onto an owned slice: what it leaves, the slice's shape written out. -/
theorem wpList_app {ops : Array Oper} {rest : List Oper} {o : Oper} {a : Act} {Q : Exit → Act → World → Prop} {w : World} (hgd : o.guard = none) (s x : Operand) (t e bytes : Nat) (z : Value)
    (ho : o.op = .call { callee := .builtin .append, args := #[s, x], argTypes := #[t, t] })
    (ht : Tryz.prog.underlying t = some (.slice e)) (hi : (Tryz.prog.info? e).map (fun i => (i.zero, i.size, i.bytes)) = some (some z, 1, bytes)) (hz : z.cells.size = 1)
    (base : Nat) (sa : Option Addr) (n cap : Nat) (xs : List Value) (hs : a.eval s = .slice sa n cap) (hown : w.ownsRow base e 1 (.slice sa n cap) n xs)
    (ad : Addr) (m c : Nat) (news : List Value) (hx : a.eval x = .slice (some ad) m c) (hl : news.length = m) (hnews : ∀ j u, news[j]? = some u → w.cell? (ad.add j) = some u) (h1 : ∀ u ∈ news, u.oneCell' = true)
    (h63 : n + m ≤ 9223372036854775807) (hbytes : (n + m) * bytes ≤ 140737488355328) (hbase : base ≤ w.heap.size)
    (h : ∀ (sa' : Option Addr) (cap' : Nat) (w' : World), w'.ownsRow base e 1 (.slice sa' (n + m) cap') (n + m) (xs ++ news) → w.grownBy w' (Value.slice sa n cap).ownBlock →
      wpList Tryz.prog ops Q rest (a.put o.dst (.slice sa' (n + m) cap')) w') : wpList Tryz.prog ops Q (o :: rest) a w := by
  obtain ⟨i0, hi0, hz0, hz1, hz2⟩ := info_parts hi
  refine wpList_append_own w hgd s x t ho base e i0 z 1 bytes ht hi0 hz0 hz1 hz2 hz (by decide) (.slice sa n cap) n xs hs hown ad m c news hx (by omega) hnews h1 (by unfold maxLen; omega) hbytes hbase ?_
  intro v' w' ho' hg' _
  obtain ⟨sa', cap', rfl⟩ := own_shape ho'
  exact h sa' cap' w' ho' hg'
/-- .. of one byte, which lies in a new cell. -/
theorem wpList_app1 {ops : Array Oper} {rest : List Oper} {o : Oper} {a : Act} {Q : Exit → Act → World → Prop} {w : World} (hgd : o.guard = none) (s x : Operand)
    (ho : o.op = .call { callee := .builtin .append, args := #[s, x], argTypes := #[23, 23] })
    (base : Nat) (sa : Option Addr) (n cap : Nat) (xs : List Value) (hs : a.eval s = .slice sa n cap) (hown : w.ownsRow base 5 1 (.slice sa n cap) n xs)
    (g c : Nat) (u : Int) (hx : a.eval x = .slice (some ⟨g, 0, none⟩) 1 c) (hnews : w.cell? ⟨g, 0, none⟩ = some (.int .u8 u))
    (h63 : n < 1000000000000) (hbase : base ≤ w.heap.size)
    (h : ∀ (sa' : Option Addr) (cap' : Nat) (w' : World), w'.ownsRow base 5 1 (.slice sa' (n + 1) cap') (n + 1) (xs ++ [.int .u8 u]) → w.grownBy w' (Value.slice sa n cap).ownBlock →
      wpList Tryz.prog ops Q rest (a.put o.dst (.slice sa' (n + 1) cap')) w') : wpList Tryz.prog ops Q (o :: rest) a w := by
  refine wpList_app hgd s x 23 5 1 (.int .u8 0) ho Tryz.underlying23 info5 rfl base sa n cap xs hs hown ⟨g, 0, none⟩ 1 c [.int .u8 u] hx rfl ?_ (by simp [Value.oneCell']) (by omega) (by omega) hbase h
  intro j u' hu
  cases j with
  | zero => cases hu; exact hnews
  | succ j => cases hu
theorem Kp.cell {S : List Nat} {a w : World} (h : Kp S a w) {p : Addr} {v : Value} (hp : a.cell? p = some v) (hn : p.block ∉ S) : w.cell? p = some v :=
  (World.cell?_of_block (h.block p.block (World.block_lt_of_cell? a p hp) hn)).trans hp
/-- Another block behind an append. -/
theorem app_at {wr w2 : World} {o o' : Obj} {row : Option Nat} {b : Nat} (hgr : (wr.alloc o).grownBy w2 row) (hb : wr.heap[b]? = some o') (hne : row ≠ some b) : w2.heap[b]? = some o' := by
  have := lt_of_heap hb
  rw [hgr.block b (by simp; omega) (fun e => hne e.symm), heap_alloc_lt this]
  exact hb
/-- Behind an append onto a row that is new for w. -/
theorem app_after {S : List Nat} {w wr w2 : World} {o : Obj} {e n c : Nat} {a : Option Addr} {xs : List Value} (hkp : Kp S w wr)
    (hown : wr.ownsRow w.heap.size e 1 (.slice a n c) n xs) (hgr : (wr.alloc o).grownBy w2 (Value.slice a n c).ownBlock) :
    Kp S w w2 ∧ ∀ b o', b < w.heap.size → wr.heap[b]? = some o' → w2.heap[b]? = some o' := by
  refine ⟨(hkp.alloc o).grown hgr (fun k hk => .inr (hown.lt k hk).1), fun b o' hb ho => ?_⟩
  have := hkp.size
  rw [hgr.block b (by simp; omega) (fun e => by have := (hown.lt b e.symm).1; omega), heap_alloc_lt (by omega)]
  exact ho
theorem own_take {w : World} {base e : Nat} {a : Option Addr} {cap n : Nat} {xs : List Value} (h : w.ownsRow base e 1 (.slice a n cap) n xs) {m : Nat} (hm : m ≤ n) :
    w.ownsRow base e 1 (.slice a m cap) m (xs.take m) := by
  have hl : xs.length = n := by simpa using h.1
  refine ⟨by simp [hl]; omega, ?_⟩
  rcases h.2 with ⟨h1, rfl⟩ | ⟨g, cap', cur, hv, hb, hg, h1, h2, h3, h4⟩
  · cases h1
    obtain rfl : m = 0 := by omega
    exact .inl ⟨rfl, rfl⟩
  · cases hv
    refine .inr ⟨g, cap, cur, rfl, hb, hg, by omega, h2, h3, ?_⟩
    rw [← h4, List.take_take]
    congr 1
    omega
theorem ret_int {k : IntKind} {a b : Int} (h : a = b) : Ending.returned (.int k a) = .returned (.int k b) := by rw [h]
end Go.Proofs.YtpigmadopflfkaaGreatDoor
