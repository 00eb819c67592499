/- The sorting of one or two names. Condition: the names are single plain letters. -/
import Derived.Test.YtpigmadopflfkaaGreatDoorCmB
namespace Go.Proofs.YtpigmadopflfkaaGreatDoor
open Go.RowKit Go.BigFrame

set_option maxRecDepth 100000 in
set_option maxHeartbeats 2000000 in
theorem isort_one (g cap : Nat) (w : World) :
    Calls Tryz.prog 163 #[.slice (some ⟨g, 0, none⟩) 1 cap] w fun e w' => e = .returned (.tuple #[]) ∧ ∃ n, w' = w.drewN n := by
  go_enter Tryz.func163, Tryz.ntmps163
  go_wp2_with fail
  go_loopg [2, 3] 1 (fun f vi _ wr => (f = 1 ∧ vi = .int .i64 0 ∨ f = 0 ∧ vi = .int .i64 1) ∧ ∃ n, wr = w.drewN n)
  case atStart => exact ⟨.inl ⟨rfl, rfl⟩, 0, rfl⟩
  case round =>
    obtain ⟨⟨rfl, rfl⟩ | ⟨rfl, rfl⟩, n, rfl⟩ := hrel
    · go_wp2_with fail
      apply wp_loop_once
      go_wp2_with fail
      go_quiet (fail)
      go_wp2_with fail
      go_roundg 0
      case measure => omega
      case rel => exact ⟨.inr ⟨rfl, rfl⟩, _, rfl⟩
    · go_wp2_with fail
      exact bodyPost_end (results_none rfl _ _ _) rfl ⟨rfl, n, rfl⟩

set_option maxRecDepth 100000 in
set_option maxHeartbeats 2000000 in
theorem isort_two (g cap : Nat) (s t : ByteArray) (w : World) (h0 : w.cell? ⟨g, 0, none⟩ = some (.string s)) (h1 : w.cell? ⟨g, 1, none⟩ = some (.string t)) (hl : Op.bytesLess s.toList t.toList = true) :
    Calls Tryz.prog 163 #[.slice (some ⟨g, 0, none⟩) 2 cap] w fun e w' => e = .returned (.tuple #[]) ∧ ∃ n, w' = w.drewN n := by
  go_enter Tryz.func163, Tryz.ntmps163
  go_wp2_with fail
  go_loopg [2, 3] 2 (fun f vi _ wr => (f = 2 ∧ vi = .int .i64 0 ∨ f = 1 ∧ vi = .int .i64 1 ∨ f = 0 ∧ vi = .int .i64 2) ∧ ∃ n, wr = w.drewN n)
  case atStart => exact ⟨.inl ⟨rfl, rfl⟩, 0, rfl⟩
  case round =>
    obtain ⟨⟨rfl, rfl⟩ | ⟨rfl, rfl⟩ | ⟨rfl, rfl⟩, n, rfl⟩ := hrel
    · go_wp2_with fail
      apply wp_loop_once
      go_wp2_with fail
      go_quiet (fail)
      go_wp2_with fail
      go_roundg 1
      case measure => omega
      case rel => exact ⟨.inr (.inl ⟨rfl, rfl⟩), _, rfl⟩
    · go_wp2_with fail
      apply wp_loop_once
      go_wp2_with fail
      go_quiet (fail)
      go_wp2_with fail
      go_roundg 0
      case measure => omega
      case rel => exact ⟨.inr (.inr ⟨rfl, rfl⟩), _, rfl⟩
    · go_wp2_with fail
      exact bodyPost_end (results_none rfl _ _ _) rfl ⟨rfl, n, rfl⟩

set_option maxRecDepth 100000 in
set_option maxHeartbeats 2000000 in
theorem isort_swap (g cap : Nat) (s t : ByteArray) (w : World) (h0 : w.cell? ⟨g, 0, none⟩ = some (.string s)) (h1 : w.cell? ⟨g, 1, none⟩ = some (.string t)) (hl : Op.bytesLess s.toList t.toList = false) (hne : (s.toList == t.toList) = false)
    (hf : ∀ i, w.frozen? ⟨g, i, none⟩ = false) :
    Calls Tryz.prog 163 #[.slice (some ⟨g, 0, none⟩) 2 cap] w fun e w' => e = .returned (.tuple #[]) ∧ ∃ n, w' = ((w.setCell ⟨g, 1, none⟩ (.string s)).setCell ⟨g, 0, none⟩ (.string t)).drewN n := by
  go_enter Tryz.func163, Tryz.ntmps163
  go_wp2_with fail
  go_loopg [2, 3] 2 (fun f vi _ wr => (f = 2 ∧ vi = .int .i64 0 ∧ ∃ n, wr = w.drewN n) ∨ (f = 1 ∧ vi = .int .i64 1 ∧ ∃ n, wr = w.drewN n) ∨ (f = 0 ∧ vi = .int .i64 2 ∧ ∃ n, wr = ((w.setCell ⟨g, 1, none⟩ (.string s)).setCell ⟨g, 0, none⟩ (.string t)).drewN n))
  case atStart => exact .inl ⟨rfl, rfl, 0, rfl⟩
  case round =>
    obtain ⟨rfl, rfl, n, rfl⟩ | ⟨rfl, rfl, n, rfl⟩ | ⟨rfl, rfl, n, rfl⟩ := hrel
    · go_wp2_with fail
      apply wp_loop_once
      go_wp2_with fail
      go_quiet (fail)
      go_wp2_with fail
      go_roundg 1
      case measure => omega
      case rel => exact .inr (.inl ⟨rfl, rfl, _, rfl⟩)
    · go_wp2_with fail
      obtain ⟨wo, hwo⟩ : ∃ wo : World, wo = w.drewN n := ⟨_, rfl⟩
      clear hwo
      go_loopg [3] 1 (fun f vi wr => (f = 1 ∧ vi = .int .i64 1 ∧ ∃ n, wr = w.drewN n) ∨ (f = 0 ∧ vi = .int .i64 0 ∧ ∃ n, wr = ((w.setCell ⟨g, 1, none⟩ (.string s)).setCell ⟨g, 0, none⟩ (.string t)).drewN n))
      case atStart => exact .inl ⟨rfl, rfl, n, rfl⟩
      case round =>
        obtain ⟨rfl, rfl, n, rfl⟩ | ⟨rfl, rfl, n, rfl⟩ := hrel
        · go_wp2_with fail
          go_quiet (fail)
          go_wp2_with fail
          go_region
          go_wp2_with fail
          go_roundg 0
          case measure => omega
          case rel => exact .inr ⟨rfl, rfl, n + nq + 1, rfl⟩
        · go_wp2_with fail
          go_quiet (fail)
          go_wp2_with fail
          go_roundg 0
          case measure => omega
          case rel => exact .inr (.inr ⟨rfl, rfl, _, rfl⟩)
    · go_wp2_with fail
      exact bodyPost_end (results_none rfl _ _ _) rfl ⟨rfl, n, rfl⟩
theorem sort_of {a : Option Addr} {n cap : Nat} {w : World} {Q : World → Prop} (hn : n ≤ 20) (h : Calls Tryz.prog 163 #[.slice a n cap] w fun e w' => e = .returned (.tuple #[]) ∧ Q w') :
    Calls Tryz.prog 113 #[.slice a n cap] w fun e w' => e = .returned (.tuple #[]) ∧ Q w' := by
  have H := Hid.mk h
  clear h
  have hn2 : (n : Int) ≤ 20 := by omega
  go_enter Tryz.func113, Tryz.ntmps113
  go_wp2_with fail
  refine H.out.mono ?_
  rintro e w' ⟨rfl, hq⟩
  have Hq := Hid.mk hq
  clear hq
  go_wp2_with fail
  exact bodyPost_end (results_none rfl _ _ _) rfl ⟨rfl, Hq.out⟩
theorem txt_list (k : Nat) : (txt [k]).toList = [UInt8.ofNat k] := by
  rw [ByteArray.toList_eq]
  rfl
theorem less_txt {k m : Nat} (hk : keyOk k) (hm : keyOk m) (h : k < m) : Op.bytesLess (txt [k]).toList (txt [m]).toList = true ∧ Op.bytesLess (txt [m]).toList (txt [k]).toList = false ∧ ((txt [m]).toList == (txt [k]).toList) = false := by
  unfold keyOk at hk hm
  rw [txt_list, txt_list]
  have h1 : (UInt8.ofNat k).toNat = k := by simp; omega
  have h2 : (UInt8.ofNat m).toNat = m := by simp; omega
  have h3 : UInt8.ofNat k < UInt8.ofNat m := by rw [UInt8.lt_iff_toNat_lt, h1, h2]; exact h
  have h4 : ¬ UInt8.ofNat m < UInt8.ofNat k := by rw [UInt8.lt_iff_toNat_lt, h1, h2]; omega
  have h5 : ¬ UInt8.ofNat m = UInt8.ofNat k := by
    intro e
    have := congrArg UInt8.toNat e
    omega
  refine ⟨?_, ?_, ?_⟩
  · simp [Op.bytesLess, h3]
  · simp [Op.bytesLess, h4]
  · simp [h5]
end Go.Proofs.YtpigmadopflfkaaGreatDoor

namespace Go.Proofs.YtpigmadopflfkaaGreatDoor
open Go.RowKit Go.BigFrame
theorem make2_run (w : World) : (Instr.makeSlice 26 (.int .i64 0) (.int .i64 2)).run Tryz.prog w = .ok (.slice (some ⟨w.heap.size, 0, none⟩) 0 2) (w.alloc (.cells #[.string .empty, .string .empty] 9)) := by kernel_rfl
theorem make1_run (w : World) : (Instr.makeSlice 26 (.int .i64 0) (.int .i64 1)).run Tryz.prog w = .ok (.slice (some ⟨w.heap.size, 0, none⟩) 0 1) (w.alloc (.cells #[.string .empty] 9)) := by kernel_rfl
theorem info9b : (Tryz.prog.info? 9).map (fun i => (i.zero, i.size, i.bytes)) = some (some (.string .empty), 1, 16) := by kernel_rfl
/-- append of one text, which lies in a new cell. -/
theorem wpList_appStr {ops : Array Oper} {rest : List Oper} {o : Oper} {a : Act} {Q : Exit → Act → World → Prop} {w : World} (hgd : o.guard = none) (s x : Operand)
    (ho : o.op = .call { callee := .builtin .append, args := #[s, x], argTypes := #[26, 26] })
    (base : Nat) (sa : Option Addr) (n cap : Nat) (xs : List Value) (hs : a.eval s = .slice sa n cap) (hown : w.ownsRow base 9 1 (.slice sa n cap) n xs)
    (g c : Nat) (u : ByteArray) (hx : a.eval x = .slice (some ⟨g, 0, none⟩) 1 c) (hnews : w.cell? ⟨g, 0, none⟩ = some (.string u))
    (h63 : n < 1000000000000) (hbase : base ≤ w.heap.size)
    (h : ∀ (sa' : Option Addr) (cap' : Nat) (w' : World), w'.ownsRow base 9 1 (.slice sa' (n + 1) cap') (n + 1) (xs ++ [.string u]) → w.grownBy w' (Value.slice sa n cap).ownBlock →
      wpList Tryz.prog ops Q rest (a.put o.dst (.slice sa' (n + 1) cap')) w') : wpList Tryz.prog ops Q (o :: rest) a w := by
  refine wpList_app hgd s x 26 9 16 (.string .empty) ho Tryz.underlying26 info9b rfl base sa n cap xs hs hown ⟨g, 0, none⟩ 1 c [.string u] hx rfl ?_ (by simp [Value.oneCell']) (by omega) (by omega) hbase h
  intro j u' hj
  cases j with
  | zero => cases hj; exact hnews
  | succ j => cases hj
/-- The row of an owned slice is no block of another make. -/
theorem own_ne9 {w : World} {B e n cap b : Nat} {sa : Option Addr} {xs : List Value} {o : Obj} (h : w.ownsRow B e 1 (.slice sa n cap) n xs) (hb : w.heap[b]? = some o) (ho : ∀ cur, o ≠ .cells cur e) : (Value.slice sa n cap).ownBlock ≠ some b := by
  intro hk
  rcases h.2 with ⟨h1, _⟩ | ⟨g, cap', cur, hv, _, hg, _⟩
  · cases h1; cases hk
  · cases hv
    have : g = b := by simpa [Value.ownBlock] using hk
    subst this
    rw [hg] at hb
    exact ho cur (Option.some.inj hb).symm
theorem own_frozen {w : World} {B e n cap g : Nat} {xs : List Value} (h : w.ownsRow B e 1 (.slice (some ⟨g, 0, none⟩) n cap) n xs) (i : Nat) : w.frozen? ⟨g, i, none⟩ = false := by
  rcases h.2 with ⟨h1, _⟩ | ⟨g', cap', cur, hv, _, hg, _⟩
  · cases h1
  · cases hv; exact blk_frozen hg i
theorem own_set {w : World} {B e : Nat} {g cap n : Nat} {xs : List Value} (h : w.ownsRow B e 1 (.slice (some ⟨g, 0, none⟩) n cap) n xs) {i : Nat} (u : Value) :
    (w.setCell ⟨g, i, none⟩ u).ownsRow B e 1 (.slice (some ⟨g, 0, none⟩) n cap) n (xs.set i u) := by
  refine ⟨by simpa using h.1, ?_⟩
  rcases h.2 with ⟨h1, _⟩ | ⟨g', cap', cur, hv, hb, hg, h1, h2, h3, h4⟩
  · cases h1
  · cases hv
    refine .inr ⟨g, cap, cur.setIfInBounds i u, rfl, hb, heap_setCell_same hg i u, h1, h2, by simpa using h3, ?_⟩
    rw [Array.toList_setIfInBounds, List.take_set, h4]
/-- Two names sorted. -/
theorem sort_keys {k m x y : Nat} (hk : keyOk k) (hm : keyOk m) (hkm : k < m) (hxy : x = k ∧ y = m ∨ x = m ∧ y = k) {w : World} {B cap : Nat} {sa : Option Addr} (h : w.ownsRow B 9 1 (.slice sa 2 cap) 2 [.string (txt [x]), .string (txt [y])]) :
    Calls Tryz.prog 113 #[.slice sa 2 cap] w fun e w' => e = .returned (.tuple #[]) ∧ (w'.ownsRow B 9 1 (.slice sa 2 cap) 2 [.string (txt [k]), .string (txt [m])] ∧ Kp (rowOf sa) w w') := by
  refine sort_of (by omega) ?_
  obtain ⟨g, rfl, hg1, hg2, hcs⟩ := own_cells h (by omega)
  have h0 := hcs 0 (by omega)
  have h1 := hcs 1 (by omega)
  have hl := less_txt hk hm hkm
  rcases hxy with ⟨rfl, rfl⟩ | ⟨rfl, rfl⟩
  · refine (isort_two g cap _ _ w h0 h1 hl.1).mono ?_
    rintro e w' ⟨rfl, n, rfl⟩
    exact ⟨rfl, h, (Kp.refl _ _).drewN _⟩
  · refine (isort_swap g cap _ _ w h0 h1 hl.2.1 hl.2.2 (own_frozen h)).mono ?_
    rintro e w' ⟨rfl, n, rfl⟩
    refine ⟨rfl, own_set (own_set h (i := 1) _) (i := 0) _, ?_⟩
    exact (((Kp.refl _ _).setCell _ (.inl (by simp [rowOf]))).setCell _ (.inl (by simp [rowOf]))).drewN _
theorem row_ne {w : World} {B n cap b : Nat} {a : Option Addr} {cs : List Nat} {o : Obj} (h : Buf B w a n cap cs) (hb : w.heap[b]? = some o) (ho : ∀ cur, o ≠ .cells cur 5) : b ∉ rowOf a := by
  intro hm
  refine own_ne9 h hb ho ?_
  cases a with
  | none => simp [rowOf] at hm
  | some z => simp [rowOf] at hm; simp [Value.ownBlock, hm]
theorem own_heap {w : World} {B e n cap g : Nat} {xs : List Value} (h : w.ownsRow B e 1 (.slice (some ⟨g, 0, none⟩) n cap) n xs) : ∃ cur, w.heap[g]? = some (.cells cur e) := by
  rcases h.2 with ⟨h1, _⟩ | ⟨g', cap', cur, hv, _, hg, _⟩
  · cases h1
  · cases hv; exact ⟨cur, hg⟩
end Go.Proofs.YtpigmadopflfkaaGreatDoor
