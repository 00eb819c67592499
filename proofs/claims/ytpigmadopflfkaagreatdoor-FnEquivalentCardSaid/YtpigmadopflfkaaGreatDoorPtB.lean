/- The pointers of jsondiff: a name appended, a mark set, a way back. Condition: the pointer is short. -/
import Derived.Test.YtpigmadopflfkaaGreatDoorEqC
import Derived.ArgAppend
import Derived.Lib.ConvBytes
namespace Go.Proofs.YtpigmadopflfkaaGreatDoor
open Go.RowKit Go.BigFrame

abbrev Buf (B : Nat) (w : World) (a : Option Addr) (n cap : Nat) (cs : List Nat) : Prop := w.ownsRow B 5 1 (.slice a n cap) n (cs.map dig)
def rowOf (a : Option Addr) : List Nat := match a with | none => [] | some g => [g.block]
/-- The elder slice's lot beside the younger one's: it is a head of it, or lies in another block and is kept. -/
def Elder (B : Nat) (w : World) (a : Option Addr) (n cap : Nat) (cs : List Nat) (a' : Option Addr) (n' cap' : Nat) (cs' : List Nat) : Prop :=
  (a = a' ∧ cap = cap' ∧ n ≤ n' ∧ cs = cs'.take n) ∨ (Buf B w a n cap cs ∧ ∀ g ∈ rowOf a, g ∉ rowOf a')
theorem Elder.refl {B : Nat} {w : World} {a : Option Addr} {n cap : Nat} {cs : List Nat} (h : Buf B w a n cap cs) : Elder B w a n cap cs a n cap cs :=
  .inl ⟨rfl, rfl, Nat.le_refl _, (List.take_of_length_le (by have := h.1; simp at this; omega)).symm⟩
theorem Elder.buf {B : Nat} {w : World} {a : Option Addr} {n cap : Nat} {cs : List Nat} {a' : Option Addr} {n' cap' : Nat} {cs' : List Nat} (h : Elder B w a n cap cs a' n' cap' cs') (hb : Buf B w a' n' cap' cs') : Buf B w a n cap cs := by
  rcases h with ⟨rfl, rfl, h1, rfl⟩ | ⟨h1, _⟩
  · have := own_take hb h1
    rwa [← List.map_take] at this
  · exact h1
theorem rowOf_mem {B : Nat} {w : World} {a : Option Addr} {n cap : Nat} {cs : List Nat} (h : Buf B w a n cap cs) : ∀ g ∈ rowOf a, B ≤ g ∧ g < w.heap.size := by
  intro g hg
  cases a with
  | none => simp [rowOf] at hg
  | some x =>
    simp [rowOf] at hg
    subst hg
    rcases h.2 with ⟨h1, _⟩ | ⟨g', c, cur, hv, _⟩
    · cases h1
    · cases hv
      exact h.lt _ rfl
/-- Later on: what touches the younger slice's row alone keeps the elder. -/
theorem Elder.kept {B : Nat} {w w' : World} {a : Option Addr} {n cap : Nat} {cs : List Nat} {a' : Option Addr} {n' cap' : Nat} {cs' : List Nat} {S : List Nat} (h : Elder B w a n cap cs a' n' cap' cs')
    (hk : Kp S w w') (hS : ∀ g ∈ S, g ∈ rowOf a' ∨ g < B ∨ w.heap.size ≤ g ∨ g ∉ rowOf a) : Elder B w' a n cap cs a' n' cap' cs' := by
  rcases h with h | ⟨h1, h2⟩
  · exact .inl h
  · refine .inr ⟨hk.owns h1 (fun k hk' e => ?_), h2⟩
    have h3 := h1.lt k hk'
    have h4 : k ∈ rowOf a := by
      cases a with
      | none => cases hk'
      | some x =>
        cases hk'
        simp [rowOf]
    rcases hS k e with h5 | h5 | h5 | h5
    · exact h2 k h4 h5
    · omega
    · omega
    · exact h5 h4
/-- How the younger slice came out of the elder: in place, or in a new row. -/
def Grew (w w' : World) (a : Option Addr) (cap : Nat) (a' : Option Addr) (cap' : Nat) : Prop :=
  (a' = a ∧ cap' = cap) ∨ (Kp [] w w' ∧ ∀ g ∈ rowOf a', w.heap.size ≤ g)
theorem own_row {a : Option Addr} {n cap k : Nat} (h : (Value.slice a n cap).ownBlock = some k) : k ∈ rowOf a := by
  cases a with
  | none => cases h
  | some x => cases h; simp [rowOf]
theorem Elder.step {B : Nat} {w w' : World} {a : Option Addr} {n cap : Nat} {cs : List Nat} {a1 : Option Addr} {n1 cap1 : Nat} {cs1 : List Nat} {a2 : Option Addr} {cap2 c : Nat} (h : Elder B w a n cap cs a1 n1 cap1 cs1)
    (hb : Buf B w a1 n1 cap1 cs1) (hk : Kp (rowOf a1) w w') (hg : Grew w w' a1 cap1 a2 cap2) : Elder B w' a n cap cs a2 (n1 + 1) cap2 (cs1 ++ [c]) := by
  rcases hg with ⟨rfl, rfl⟩ | ⟨hk0, hf⟩
  · rcases h with ⟨rfl, rfl, h1, rfl⟩ | h
    · refine .inl ⟨rfl, rfl, by omega, ?_⟩
      have hl : cs1.length = n1 := by have := hb.1; simpa using this
      rw [List.take_append_of_le_length (by omega)]
    · rcases Elder.kept (n' := n1) (cap' := cap2) (cs' := cs1) (.inr h) hk (fun g hg => .inl hg) with h2 | h2
      · exact .inl ⟨h2.1, h2.2.1, by omega, by
          have hl : cs1.length = n1 := by have := hb.1; simpa using this
          rw [List.take_append_of_le_length (by omega)]
          exact h2.2.2.2⟩
      · exact .inr h2
  · have hx := h.buf hb
    refine .inr ⟨hk0.owns hx (by simp), fun g hg hg2 => ?_⟩
    have h1 := (rowOf_mem hx g hg).2
    have h2 := hf g hg2
    omega
theorem buf_snoc {B : Nat} {w : World} {a : Option Addr} {n cap u : Nat} {cs : List Nat} (h : w.ownsRow B 5 1 (.slice a n cap) n (cs.map dig ++ [.int .u8 u])) : Buf B w a n cap (cs ++ [u]) := by
  unfold Buf
  rw [List.map_append]
  exact h
/-- append of one byte onto a buffer. -/
theorem wpList_appB {ops : Array Oper} {rest : List Oper} {o : Oper} {act : Act} {Q : Exit → Act → World → Prop} {w : World} (hgd : o.guard = none) (s x : Operand)
    (ho : o.op = .call { callee := .builtin .append, args := #[s, x], argTypes := #[23, 23] })
    (B : Nat) (a : Option Addr) (n cap : Nat) (cs : List Nat) (hs : act.eval s = .slice a n cap) (hown : Buf B w a n cap cs)
    (g c u : Nat) (hx : act.eval x = .slice (some ⟨g, 0, none⟩) 1 c) (hnews : w.cell? ⟨g, 0, none⟩ = some (.int .u8 u))
    (h63 : n < 1000000000000) (hbase : B ≤ w.heap.size)
    (h : ∀ (a' : Option Addr) (cap' : Nat) (w' : World), Buf B w' a' (n + 1) cap' (cs ++ [u]) → Kp (rowOf a) w w' → Grew w w' a cap a' cap' →
      wpList Tryz.prog ops Q rest (act.put o.dst (.slice a' (n + 1) cap')) w') : wpList Tryz.prog ops Q (o :: rest) act w := by
  obtain ⟨i0, hi0, hz0, hz1, hz2⟩ := info_parts info5
  have hn0 : ∀ j v, [Value.int .u8 u][j]? = some v → w.cell? ((⟨g, 0, none⟩ : Addr).add j) = some v := by
    intro j v hj
    cases j with
    | zero => cases hj; exact hnews
    | succ j => cases hj
  by_cases hroom : n + 1 ≤ cap
  · rcases hown.2 with ⟨h1, rfl⟩ | ⟨g', cap', cur, hv, hb, hg, hc1, hc2, hc3, hc4⟩
    · cases h1; omega
    · cases hv
      refine wpList_append_fits w hgd s x 23 ho B 5 i0 1 Tryz.underlying23 hi0 hz1 g' n cap (cs.map dig) hs hown ⟨g, 0, none⟩ 1 c [.int .u8 u] hx rfl hn0 (by simp [Value.oneCell']) hroom ?_
      intro w' hw' hgr
      refine h _ _ w' (buf_snoc hw') ?_ (.inl ⟨rfl, rfl⟩)
      exact (Kp.ofGrown hgr).mono (by simp [rowOf])
  · refine wpList_append_grows w hgd s x 23 ho 5 i0 (.int .u8 0) 1 1 Tryz.underlying23 hi0 hz0 hz1 hz2 rfl (by decide) a n cap (cs.map dig) hs ?_ (by simpa using hown.1) ?_ ⟨g, 0, none⟩ 1 c [.int .u8 u] hx rfl hn0 (by simp [Value.oneCell']) (by omega) (by unfold maxLen; omega) (by omega) ?_
    · rintro rfl
      rcases hown.2 with ⟨h1, rfl⟩ | ⟨g', cap', cur, hv, _⟩
      · cases h1; exact ⟨rfl, rfl⟩
      · cases hv
    · rintro b rfl j v hj
      rcases hown.2 with ⟨h1, rfl⟩ | ⟨g', cap', cur, hv, _⟩
      · cases h1
      · cases hv
        exact hown.cells (g := g') rfl j v hj
    · intro v' w' hw' hgr
      obtain ⟨a', cap', rfl⟩ := own_shape hw'
      have hk : Kp [] w w' := Kp.ofGrown hgr
      refine h a' cap' w' ?_ (hk.mono (by simp)) (.inr ⟨hk, ?_⟩)
      · exact buf_snoc (own_mono hw' hbase)
      · intro g2 hg2
        have h1 : Buf w.heap.size w' a' (n + 1) cap' (cs ++ [u]) := buf_snoc hw'
        exact (rowOf_mem h1 g2 hg2).1
end Go.Proofs.YtpigmadopflfkaaGreatDoor

namespace Go.Proofs.YtpigmadopflfkaaGreatDoor
open Go.RowKit Go.BigFrame

/-- The pointer in block p. -/
def Ptr (w : World) (p : Nat) (a : Option Addr) (n cap : Nat) (key : ByteArray) (idx : Int) (pk : ByteArray) (pi sep : Int) : Prop :=
  w.heap[p]? = some (.cells #[.slice a n cap, .string key, .int .i64 idx, .string pk, .int .i64 pi, .int .i64 sep] 64)
/-- What an append onto the buffer leaves: the younger buffer, the elder ones beside it. -/
def Young (B p : Nat) (w w' : World) (a : Option Addr) (n cap : Nat) (cs : List Nat) (a' : Option Addr) (n' cap' : Nat) (cs' : List Nat) : Prop :=
  Buf B w' a' n' cap' cs' ∧ p ∉ rowOf a' ∧ Kp (p :: rowOf a) w w' ∧ (∀ g ∈ rowOf a', g ∈ rowOf a ∨ w.heap.size ≤ g) ∧
    ∀ a0 n0 cap0 cs0, p ∉ rowOf a0 → Elder B w a0 n0 cap0 cs0 a n cap cs → Elder B w' a0 n0 cap0 cs0 a' n' cap' cs'
theorem Young.trans {B p : Nat} {w w' w'' : World} {a : Option Addr} {n cap : Nat} {cs : List Nat} {a' : Option Addr} {n' cap' : Nat} {cs' : List Nat} {a'' : Option Addr} {n'' cap'' : Nat} {cs'' : List Nat}
    (h : Young B p w w' a n cap cs a' n' cap' cs') (k : Young B p w' w'' a' n' cap' cs' a'' n'' cap'' cs'') : Young B p w w'' a n cap cs a'' n'' cap'' cs'' := by
  refine ⟨k.1, k.2.1, h.2.2.1.trans' k.2.2.1 ?_, ?_, fun a0 n0 cap0 cs0 hp he => k.2.2.2.2 _ _ _ _ hp (h.2.2.2.2 _ _ _ _ hp he)⟩
  · intro i hi hl
    simp only [List.mem_cons] at hi ⊢
    rcases hi with hi | hi
    · exact .inl hi
    · rcases h.2.2.2.1 i hi with h1 | h1
      · exact .inr h1
      · omega
  · intro g hg
    rcases k.2.2.2.1 g hg with h1 | h1
    · exact h.2.2.2.1 g h1
    · have := h.2.2.1.size
      exact .inr (by omega)
/-- One byte appended and the slice stored into the pointer. -/
theorem Young.one {B p : Nat} {w w1 w2 w3 : World} {a : Option Addr} {n cap c : Nat} {cs : List Nat} {a' : Option Addr} {cap' : Nat} (hb : Buf B w a n cap cs) (hpa : p ∉ rowOf a) (hpl : p < w.heap.size)
    (hk1 : Kp [] w w1) (hb2 : Buf B w2 a' (n + 1) cap' (cs ++ [c])) (hk2 : Kp (rowOf a) w1 w2) (hg : Grew w1 w2 a cap a' cap') (hk3 : Kp [p] w2 w3) : Young B p w w3 a n cap cs a' (n + 1) cap' (cs ++ [c]) := by
  have hs := hk1.size
  have hrow : ∀ g ∈ rowOf a', g ∈ rowOf a ∨ w1.heap.size ≤ g := by
    intro g hg'
    rcases hg with ⟨rfl, _⟩ | ⟨_, h⟩
    · exact .inl hg'
    · exact .inr (h g hg')
  have hpa' : p ∉ rowOf a' := by
    intro h
    rcases hrow p h with h1 | h1
    · exact hpa h1
    · omega
  refine ⟨hk3.owns hb2 (fun k hk e => hpa' (by simp at e; subst e; exact own_row hk)), hpa', ?_, ?_, ?_⟩
  · refine (Kp.mono (T := p :: rowOf a) hk1 (by simp)).trans ?_
    exact (hk2.mono (T := p :: rowOf a) (fun i hi _ => by simp [hi])).trans (hk3.mono (T := p :: rowOf a) (fun i hi _ => by simp at hi; simp [hi]))
  · intro g hg'
    rcases hrow g hg' with h1 | h1
    · exact .inl h1
    · exact .inr (by omega)
  · intro a0 n0 cap0 cs0 hp0 he
    have h1 : Elder B w1 a0 n0 cap0 cs0 a n cap cs := he.kept hk1 (by simp)
    have hb1 : Buf B w1 a n cap cs := hk1.owns hb (by simp)
    have h2 := h1.step (c := c) hb1 hk2 hg
    exact h2.kept hk3 (fun g hg' => by simp at hg'; subst hg'; exact .inr (.inr (.inr hp0)))

theorem bytes_kp (w : World) (e : TypeId) (s : ByteArray) : Kp [] w (Lib.bytesWorld w e s) :=
  ⟨rfl, rfl, rfl, by rw [Lib.bytesWorld_size]; omega, fun k hk _ => Lib.bytesWorld_at_old w e s k hk⟩
theorem bytes_byt (w : World) {cs : List Nat} (h9 : ∀ d ∈ cs, d < 256) : Byt (Lib.bytesWorld w 5 (txt cs)) w.heap.size cs := by
  intro i hi
  have hsz : i < (txt cs).size := by rw [txt_size]; exact hi
  rw [Lib.bytesWorld_cell w 5 (txt cs) i hsz]
  have h1 := txt_get h9 hsz
  have h2 : (txt cs).data.toList.getD i 0 = (txt cs)[i] := by
    have : i < (txt cs).data.size := hsz
    rw [List.getD_eq_getElem?_getD, Array.getElem?_toList, Array.getElem?_eq_getElem this]
    rfl
  rw [h2, h1]

set_option maxRecDepth 100000 in
set_option maxHeartbeats 1000000 in
theorem escape_any (B p k n cap : Nat) (a : Option Addr) (cs : List Nat) (key : ByteArray) (idx : Int) (pk : ByteArray) (pi sep : Int) (w : World) (hk : keyOk k) (hp : Ptr w p a n cap key idx pk pi sep) (hb : Buf B w a n cap cs)
    (hpa : p ∉ rowOf a) (hB : B ≤ w.heap.size) (hn : n < 1000000) :
    Calls Tryz.prog 103 #[.pointer (some ⟨p, 0, none⟩), .string (txt [k])] w fun e w' => e = .returned (.tuple #[]) ∧ ∃ a' cap', Ptr w' p a' (n + 1) cap' key idx pk pi sep ∧ Young B p w w' a n cap cs a' (n + 1) cap' (cs ++ [k]) := by
  obtain ⟨hk1, hk2⟩ := hk
  have t1 : ((k : Int) == 47) = false := by simp; omega
  have t2 : ((k : Int) == 126) = false := by simp; omega
  have hcv := Lib.run_convert_string_bytes (P := Tryz.prog) w 9 23 5 (txt [k]) Tryz.underlying9 Tryz.underlying23 Tryz.underlying5
  have hs1 : (txt [k]).size = 1 := txt_size _
  rw [hs1] at hcv
  have H := Hid.mk (And.intro hp (And.intro hb (And.intro hpa (And.intro hB hk2))))
  clear hp hb hpa hB
  go_enter Tryz.func103, Tryz.ntmps103
  go_wp2_with fail
  have hk1' : Kp [] w (Lib.bytesWorld w 5 (txt [k])) := bytes_kp _ _ _
  have hby : (Lib.bytesWorld w 5 (txt [k])).cell? ⟨w.heap.size, 0, none⟩ = some (.int .u8 k) := bytes_byt w (cs := [k]) (by simp; omega) 0 (by simp)
  generalize Lib.bytesWorld w 5 (txt [k]) = w1 at hk1' hby
  have H1 := Hid.mk (And.intro hk1' hby)
  clear hk1' hby hcv hs1
  go_loopg [9] 1 (fun f v wr => (f = 1 ∧ v = .int .i64 0 ∧ w1 = wr) ∨ (f = 0 ∧ v = .int .i64 1 ∧ ∃ a' cap', Ptr wr p a' (n + 1) cap' key idx pk pi sep ∧ Young B p w wr a n cap cs a' (n + 1) cap' (cs ++ [k])))
  case atStart => exact .inl ⟨rfl, rfl, rfl⟩
  case round =>
    rcases hrel with ⟨rfl, rfl, rfl⟩ | ⟨rfl, rfl, a', cap', hr⟩
    · have hpl := lt_of_heap H.out.1
      have hp1 : w1.heap[p]? = _ := H1.out.1.at H.out.1 (by simp)
      have hc := blk_cell hp1
      have hf := blk_frozen hp1
      have hcb := H1.out.2
      have hb1 : Buf B w1 a n cap cs := H1.out.1.owns H.out.2.1 (by simp)
      have Hp1 := Hid.mk hp1
      have Hb1 := Hid.mk hb1
      have Hpl := Hid.mk hpl
      clear hp1 hb1 hpl
      go_wp2_with (at_builtin; refine wpList_appB rfl _ _ rfl B a n cap cs rfl (Hb1.out.alloc _) w1.heap.size 1 k rfl (by simp) (by omega) (by have := H1.out.1.size; have := H.out.2.2.2.1; simp; omega) ?_; intro a2 c2 w2 hown2 hgr2 hgrew; have Hw2 := Hid.mk (And.intro hgr2 (And.intro hown2 hgrew)); clear hgr2 hown2 hgrew; have hc2 := blk_cell (Hw2.out.1.at (heap_alloc_lt (lt_of_heap Hp1.out) _ |>.trans Hp1.out) H.out.2.2.1); have hf2 := blk_frozen (Hw2.out.1.at (heap_alloc_lt (lt_of_heap Hp1.out) _ |>.trans Hp1.out) H.out.2.2.1))
      go_roundg 0
      case measure => omega
      case rel =>
        refine .inr ⟨rfl, rfl, a2, c2, ?_, ?_⟩
        · have h1 := Hw2.out.1.at (heap_alloc_lt (lt_of_heap Hp1.out) _ |>.trans Hp1.out) H.out.2.2.1
          unfold Ptr
          rw [heap_setCell_same h1]; rfl
        · exact Young.one H.out.2.1 H.out.2.2.1 Hpl.out (H1.out.1.alloc _) Hw2.out.2.1 Hw2.out.1 Hw2.out.2.2 ((Kp.refl _ _).setCell _ (.inl (by simp)))
    · have Hr := Hid.mk hr
      clear hr H1
      go_wp2_with fail
      exact bodyPost_end (results_none rfl _ _ _) rfl ⟨rfl, a', cap', Hr.out⟩

set_option maxRecDepth 100000 in
set_option maxHeartbeats 1000000 in
theorem appendKey_any (B p k n cap : Nat) (a : Option Addr) (cs : List Nat) (key : ByteArray) (idx : Int) (pk : ByteArray) (pi sep : Int) (w : World) (hk : keyOk k) (hp : Ptr w p a n cap key idx pk pi sep) (hb : Buf B w a n cap cs)
    (hpa : p ∉ rowOf a) (hB : B ≤ w.heap.size) (hn : n < 900000) :
    Calls Tryz.prog 71 #[.pointer (some ⟨p, 0, none⟩), .string (txt [k])] w fun e w' => e = .returned (.tuple #[]) ∧ ∃ a' cap', Ptr w' p a' (n + 1 + 1) cap' (txt [k]) 0 pk pi sep ∧ Young B p w w' a n cap cs a' (n + 1 + 1) cap' (cs ++ [47] ++ [k]) := by
  have H := Hid.mk (And.intro hp (And.intro hb (And.intro hpa hB)))
  have hc := blk_cell hp
  have hf := blk_frozen hp
  have Hpl := Hid.mk (lt_of_heap hp)
  have Hk := Hid.mk hk
  clear hp hb hpa hB hk
  go_enter Tryz.func71, Tryz.ntmps71
  go_wp2_with (at_builtin; refine wpList_appB rfl _ _ rfl B a n cap cs rfl (H.out.2.1.alloc _) w.heap.size 1 47 rfl (by simp) (by omega) (by have := H.out.2.2.2; simp; omega) ?_; intro a2 c2 w2 hown2 hgr2 hgrew; have Hw2 := Hid.mk (And.intro hgr2 (And.intro hown2 hgrew)); clear hgr2 hown2 hgrew; have hc2 := blk_cell (Hw2.out.1.at (heap_alloc_lt Hpl.out _ |>.trans H.out.1) H.out.2.2.1); have hf2 := blk_frozen (Hw2.out.1.at (heap_alloc_lt Hpl.out _ |>.trans H.out.1) H.out.2.2.1))
  obtain ⟨w3, hw3⟩ : ∃ w3, w3 = (((w2.setCell ⟨p, 0, none⟩ (.slice a2 (n + 1) c2)).setCell ⟨p, 1, none⟩ (.string (txt [k]))).setCell ⟨p, 2, none⟩ (.int .i64 0)) := ⟨_, rfl⟩
  rw [← hw3]
  have h1 := Hw2.out.1.at (heap_alloc_lt Hpl.out _ |>.trans H.out.1) H.out.2.2.1
  have hp3 : Ptr w3 p a2 (n + 1) c2 (txt [k]) 0 pk pi sep := by
    rw [hw3]
    unfold Ptr
    rw [heap_setCell_same (heap_setCell_same (heap_setCell_same h1 _ _) _ _)]
    rfl
  have hk3 : Kp [p] w2 w3 := by
    rw [hw3]
    exact (((Kp.refl _ _).setCell _ (.inl (by simp))).setCell _ (.inl (by simp))).setCell _ (.inl (by simp))
  have hy : Young B p w w3 a n cap cs a2 (n + 1) c2 (cs ++ [47]) :=
    Young.one H.out.2.1 H.out.2.2.1 Hpl.out ((Kp.refl _ _).alloc _) Hw2.out.2.1 Hw2.out.1 Hw2.out.2.2 hk3
  have Hy := Hid.mk (And.intro hp3 hy)
  clear hw3 h1 hp3 hk3 hy hc hf hc2 hf2
  refine (escape_any B p k (n + 1) c2 a2 _ (txt [k]) 0 pk pi sep w3 Hk.out Hy.out.1 Hy.out.2.1 Hy.out.2.2.1 (by have := H.out.2.2.2; have := Hy.out.2.2.2.1.size; omega) (by omega)).mono ?_
  rintro e w4 ⟨rfl, a4, c4, hp4, hy4⟩
  have H4 := Hid.mk (And.intro hp4 hy4)
  clear hp4 hy4
  go_wp2_with fail
  exact bodyPost_end (results_none rfl _ _ _) rfl ⟨rfl, a4, c4, H4.out.1, Hy.out.2.trans H4.out.2⟩

set_option maxRecDepth 100000 in
set_option maxHeartbeats 1000000 in
theorem snapshot_any (p n cap : Nat) (a : Option Addr) (key : ByteArray) (idx : Int) (pk : ByteArray) (pi sep : Int) (w : World) (hp : Ptr w p a n cap key idx pk pi sep) :
    Calls Tryz.prog 106 #[.pointer (some ⟨p, 0, none⟩)] w fun e w' => e = .returned (.tuple #[]) ∧ Ptr w' p a n cap key idx key idx n ∧ Kp [p] w w' := by
  have H := Hid.mk hp
  have hc := blk_cell hp
  have hf := blk_frozen hp
  clear hp
  go_enter Tryz.func106, Tryz.ntmps106
  go_wp2_with fail
  refine bodyPost_end (results_none rfl _ _ _) rfl ⟨rfl, ?_, ?_⟩
  · unfold Ptr
    rw [heap_setCell_same (heap_setCell_same (heap_setCell_same H.out _ _) _ _)]
    rfl
  · exact (((Kp.refl _ _).setCell _ (.inl (by simp))).setCell _ (.inl (by simp))).setCell _ (.inl (by simp))

set_option maxRecDepth 100000 in
set_option maxHeartbeats 1000000 in
theorem rewind_any (p n cap m : Nat) (a : Option Addr) (key : ByteArray) (idx : Int) (pk : ByteArray) (pi : Int) (w : World) (hp : Ptr w p a n cap key idx pk pi m) (hm : m ≤ n) (hn : n ≤ cap) :
    Calls Tryz.prog 110 #[.pointer (some ⟨p, 0, none⟩)] w fun e w' => e = .returned (.tuple #[]) ∧ Ptr w' p a m cap pk pi pk pi m ∧ Kp [p] w w' := by
  have H := Hid.mk hp
  have hc := blk_cell hp
  have hf := blk_frozen hp
  have hmc : m ≤ cap := by omega
  clear hp
  go_enter Tryz.func110, Tryz.ntmps110
  go_wp2_with fail
  go_still_tail 10, (by kernel_rfl)
  change wpList _ _ _ _ _ w.drew
  go_wp2_with fail
  refine bodyPost_end (results_none rfl _ _ _) rfl ⟨rfl, ?_, ?_⟩
  · show (((w.setCell ⟨p, 0, none⟩ _).setCell ⟨p, 1, none⟩ _).setCell ⟨p, 2, none⟩ _).heap[p]? = _
    rw [heap_setCell_same (heap_setCell_same (heap_setCell_same H.out _ _) _ _)]
    rfl
  · exact ((((Kp.refl _ _).setCell _ (.inl (by simp))).setCell _ (.inl (by simp))).setCell _ (.inl (by simp))).drew

set_option maxRecDepth 100000 in
set_option maxHeartbeats 1000000 in
theorem copy_any (B p n cap : Nat) (a : Option Addr) (cs : List Nat) (key : ByteArray) (idx : Int) (pk : ByteArray) (pi sep : Int) (w : World) (hp : Ptr w p a n cap key idx pk pi sep) (hb : Buf B w a n cap cs) :
    Calls Tryz.prog 67 #[.pointer (some ⟨p, 0, none⟩)] w fun e w' => e = .returned (.string (txt cs)) ∧ w = w' := by
  have hc := blk_cell hp
  have hs := str_own hb 9 Tryz.underlying9
  clear hp hb
  go_enter Tryz.func67, Tryz.ntmps67
  go_wp2_with fail
  go_ret
  exact ⟨rfl, rfl⟩

set_option maxRecDepth 100000 in
set_option maxHeartbeats 1000000 in
theorem isRoot_any (p n cap : Nat) (a : Option Addr) (key : ByteArray) (idx : Int) (pk : ByteArray) (pi sep : Int) (w : World) (hp : Ptr w p a n cap key idx pk pi sep) :
    Calls Tryz.prog 74 #[.pointer (some ⟨p, 0, none⟩)] w fun e w' => e = .returned (.bool ((n : Int) == 0)) ∧ w = w' := by
  have hc := blk_cell hp
  clear hp
  go_enter Tryz.func74, Tryz.ntmps74
  go_wp2_with fail
  go_ret
  exact ⟨rfl, rfl⟩

/-- The value of a pointer, laid out. -/
abbrev ptrV (a : Option Addr) (n cap : Nat) (key : ByteArray) (idx : Int) (pk : ByteArray) (pi sep : Int) : Value :=
  .agg #[.slice a n cap, .string key, .int .i64 idx, .string pk, .int .i64 pi, .int .i64 sep]

set_option maxRecDepth 100000 in
set_option maxHeartbeats 1000000 in
theorem isIgnored_any (d n cap : Nat) (a : Option Addr) (key : ByteArray) (idx : Int) (pk : ByteArray) (pi sep : Int) (w : World) (hd : w.cell? ⟨d, 4, none⟩ = some (.bool false)) :
    Calls Tryz.prog 73 #[.pointer (some ⟨d, 0, none⟩), .agg #[.slice a n cap, .string key, .int .i64 idx, .string pk, .int .i64 pi, .int .i64 sep]] w fun e w' => e = .returned (.bool false) ∧ Kp [] w w' := by
  have hd2 : ∀ o, (w.alloc o).cell? ⟨d, 4, none⟩ = some (.bool false) := fun o => ((Kp.refl [] w).alloc o).cell hd (by simp)
  clear hd
  go_enter Tryz.func73, Tryz.ntmps73
  go_wp2_with fail
  go_ret
  exact ⟨rfl, (Kp.refl _ _).alloc _⟩
end Go.Proofs.YtpigmadopflfkaaGreatDoor
