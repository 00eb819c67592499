/- lightstrconv.FormatFloat and AppendFloat of 3: the text 3. -/
import Derived.Test.YtpigmadopflfkaaGreatDoorFmC
import Derived.Test.YtpigmadopflfkaaGreatDoorIxA
namespace Go.Proofs.YtpigmadopflfkaaGreatDoor
open Go.RowKit Go.BigFrame
set_option maxRecDepth 100000 in
set_option maxHeartbeats 1000000 in
theorem text3 (a : Nat) (B : Nat) (w : World) (ha : Dec B w a [3] 1) :
    Calls Tryz.prog 130 #[.pointer (some ⟨a, 0, none⟩), .int .i64 0] w fun e w' => e = .returned (.string { data := #[51] }) ∧ Kp [] w w' := by
  have H := Hid.mk ha
  clear ha
  go_enter Tryz.func130, Tryz.ntmps130
  go_wp2_with fail
  go_loopg [5, 6] 1 (fun f vs vi wr => (f = 1 ∧ vs = .slice none 0 0 ∧ vi = .int .i64 0 ∧ w = wr) ∨ (f = 0 ∧ vi = .int .i64 1 ∧ ∃ sa cap, vs = .slice sa 1 cap ∧ wr.ownsRow w.heap.size 5 1 (.slice sa 1 cap) 1 [.int .u8 51] ∧ Kp [] w wr))
  case atStart => exact .inl ⟨rfl, rfl, rfl, rfl⟩
  case round =>
    obtain ⟨rfl, rfl, rfl, rfl⟩ | ⟨rfl, rfl, sa, cap, rfl, hown, hk⟩ := hrel
    · obtain ⟨a1, c1, hca, _, _, _, _, _⟩ := H.out.opened
      simp only [List.length_cons, List.length_nil] at hca
      go_wp2_with fail
      refine (digit_any B a [3] 1 0 w H.out).mono ?_
      rintro e w' ⟨rfl, rfl⟩
      clear hca
      rw [show (([3] : List Nat).getD 0 0) = 3 from rfl]
      go_wp2_with (at_builtin; refine wpList_app1 rfl _ _ rfl w.heap.size none 0 0 [] rfl ⟨rfl, .inl ⟨rfl, rfl⟩⟩ w.heap.size 1 (51 : Int) rfl (by simp) (by omega) (by simp) ?_; intro a2 c2 w5 hown2 hgr2; have Hw2 := Hid.mk (And.intro hgr2 hown2); clear hgr2 hown2)
      go_roundg 0
      case measure => omega
      case rel => exact .inr ⟨rfl, rfl, a2, c2, rfl, Hw2.out.2, ((Kp.refl _ _).alloc _).grown Hw2.out.1 (fun j hj => by cases hj)⟩
    · have hda := H.out.kept hk (by simp) (by simp)
      obtain ⟨a1, c1, hca, _, _, _, _, _⟩ := hda.opened
      simp only [List.length_cons, List.length_nil] at hca
      have hcv := str_own (cs := [51]) hown 9 Tryz.underlying9
      have Hk := Hid.mk hk
      clear hda hk hown
      go_wp2_with fail
      go_ret
      exact ⟨rfl, Hk.out⟩
set_option maxRecDepth 100000 in
set_option maxHeartbeats 2000000 in
theorem format3 (w : World) : Calls Tryz.prog 84 #[.float .f64 4613937818241073152, .int .u8 102, .int .i64 (-1), .int .i64 64] w fun e w' => e = .returned (.string { data := #[51] }) ∧ Kp [] w w' := by
  have hbr := bits_run 4613937818241073152
  go_enter Tryz.func84, Tryz.ntmps84
  go_wp2_with fail
  refine (formOf_64 w).mono ?_
  rintro e w1 ⟨rfl, hk1⟩
  have H1 := Hid.mk hk1
  clear hk1
  go_wp2_with fail
  obtain ⟨p, hp⟩ : ∃ p, p = w1.heap.size := ⟨_, rfl⟩
  obtain ⟨w2, hw2⟩ : ∃ w2, w2 = w1.alloc (.cells #[.int .i64 52, .int .i64 11, .int .i64 (-1023)] 188) := ⟨_, rfl⟩
  rw [← hw2, ← hp]
  have hp2 : w2.heap[p]? = some (.cells #[.int .i64 52, .int .i64 11, .int .i64 (-1023)] 188) := by rw [hw2, hp]; exact heap_alloc_same _ _
  have hk2 : Kp [] w w2 := by rw [hw2]; exact H1.out.alloc _
  have hcp := blk_cell hp2
  have H2 := Hid.mk (And.intro hp2 hk2)
  clear hw2 hp2 hk2 hp hbr
  have hb1 : bits BinOp.and IntKind.i64 1024 2047 = 1024 := by kernel_rfl
  have hb2 : bits BinOp.and IntKind.u64 4613937818241073152 4503599627370495 = 2251799813685248 := by kernel_rfl
  have hb3 : bits BinOp.or IntKind.u64 2251799813685248 4503599627370496 = 6755399441055744 := by kernel_rfl
  go_quiet (fail)
  go_wp2_with fail
  obtain ⟨w3, hw3⟩ : ∃ w3, w3 = w2.drewN nq := ⟨_, rfl⟩
  rw [← hw3]
  have H3 := Hid.mk (And.intro (show w3.heap[p]? = some (.cells #[.int .i64 52, .int .i64 11, .int .i64 (-1023)] 188) by rw [hw3]; exact H2.out.1) (show Kp [] w w3 by rw [hw3]; exact H2.out.2.drewN nq))
  clear hw3 hcp hb1 hb2 hb3
  refine (newDecimal_any 6755399441055744 mi0 w3 (by omega) mi_ud (by decide)).mono ?_
  rintro e w4 ⟨a, rfl, hal, hq, hk4⟩
  have hda := hq.dec mi_trim (by decide)
  have hp4 := hk4.at H3.out.1 (by simp)
  have hcp := blk_cell hp4
  have hpa : p ≠ a := by have := lt_of_heap H3.out.1; omega
  have H4 := Hid.mk (And.intro hda (And.intro hp4 (And.intro (H3.out.2.trans hk4) (And.intro hpa hal))))
  clear hda hp4 hk4 hq hal hpa
  go_wp2_with fail
  refine (shift_neg (w3.heap.size + 1) a mi0 51 16 w4 (by obtain ⟨_, _, hb, _⟩ := H4.out.1; have := lt_of_heap hb; have := H4.out.2.2.2.2; omega) (by omega) (by omega) (by decide) (by omega) (by omega) H4.out.1 [3] 1 mi_half).mono ?_
  rintro e w5 ⟨rfl, hda, hk5⟩
  have hp5 := hk5.at H4.out.2.1 (by simpa using H4.out.2.2.2.1)
  have hk05 : Kp [] w w5 := H4.out.2.2.1.trans' hk5 (fun j hj hjl => by have := H4.out.2.2.2.2; have := H3.out.2.size; simp at hj; omega)
  clear hcp
  have hcp := blk_cell hp5
  have H5 := Hid.mk (And.intro hda (And.intro hp5 hk05))
  clear hda hk5 hk05 hp5
  go_wp2_with fail
  refine (short3 a (w3.heap.size + 1) w5 H5.out.1).mono ?_
  rintro e w6 ⟨rfl, hk6⟩
  have hda := H5.out.1.kept hk6 (by simp) (by simp)
  obtain ⟨a1, c1, hca, _, _, _, _, _⟩ := hda.opened
  simp only [List.length_cons, List.length_nil] at hca
  have H6 := Hid.mk (And.intro hda (H5.out.2.2.trans hk6))
  clear hda hk6 hcp
  go_wp2_with fail
  go_quiet (fail)
  go_wp2_with fail
  have H7 := Hid.mk (And.intro (H6.out.1.drewN nq) (H6.out.2.drewN nq))
  clear hca
  refine (text3 a _ _ H7.out.1).mono ?_
  rintro e w8 ⟨rfl, hk8⟩
  have H8 := Hid.mk (H7.out.2.trans hk8)
  have hadd : (Op.stringOp .add { data := #[] } { data := #[51] }).run Tryz.prog w8 = .ok (.string { data := #[51] }) w8 := by kernel_rfl
  clear hk8
  go_wp2_with fail
  go_ret
  exact ⟨rfl, H8.out⟩
set_option maxRecDepth 100000 in
set_option maxHeartbeats 1000000 in
theorem appendFloat3 (B cap : Nat) (a : Option Addr) (w : World) (hb : Buf B w a 0 cap []) (hB : B ≤ w.heap.size) :
    Calls Tryz.prog 56 #[.slice a 0 cap, .float .f64 4613937818241073152, .int .u8 102, .int .i64 (-1), .int .i64 64] w fun e w' => ∃ a' cap', e = .returned (.slice a' 1 cap') ∧ Buf B w' a' 1 cap' [51] ∧ Kp (rowOf a) w w' := by
  have H := Hid.mk hb
  clear hb
  obtain ⟨i0, hi0, hz0, hz1, hz2⟩ := info_parts info5
  go_enter Tryz.func56, Tryz.ntmps56
  go_wp2_with fail
  refine (format3 w).mono ?_
  rintro e w1 ⟨rfl, hk1⟩
  have H1 := Hid.mk (And.intro hk1 (hk1.owns H.out (by simp)))
  clear hk1
  go_wp2_with (at_builtin; refine Lib.wpList_append_own_string w1 rfl _ _ 23 9 rfl B 5 i0 Tryz.underlying23 Tryz.underlying9 hi0 hz0 hz1 hz2 (.slice a 0 cap) 0 [] rfl H1.out.2 { data := #[51] } rfl (by decide) (by decide) (by have := H1.out.1.size; omega) ?_; intro v' w2 hown2 hgr2 _; have Hw2 := Hid.mk (And.intro hgr2 hown2); clear hgr2 hown2)
  obtain ⟨a', cap', rfl⟩ := own_shape Hw2.out.2
  go_ret
  exact ⟨a', cap', rfl, Hw2.out.2, (H1.out.1.mono (by simp)).trans ((Kp.ofGrown Hw2.out.1).mono (by intro i hi _; simp at hi; exact own_row hi))⟩
set_option maxRecDepth 100000 in
set_option maxHeartbeats 2000000 in
theorem write3 (B cap : Nat) (a : Option Addr) (w : World) (hb : Buf B w a 0 cap []) (hB : B ≤ w.heap.size) :
    Calls Tryz.prog 38 #[.slice a 0 cap, .iface 87 (.float .f64 4613937818241073152), .int .i64 0] w fun e w' => ∃ a' cap', e = .returned (.tuple #[.slice a' 1 cap', .nilIface]) ∧ Buf B w' a' 1 cap' [51] ∧ Kp (rowOf a) w w' := by
  have H := Hid.mk (appendFloat3 B cap a w hb hB)
  clear hb
  have n4 := ta_no4
  have n9 := ta_no9
  have y87 := ta_yes87
  have o1 : FloatKind.f64.format.order 4613937818241073152 4613937818241073152 = some .eq := by kernel_rfl
  have o2 : FloatKind.f64.format.order 0 0 = some .eq := by kernel_rfl
  have o3 : FloatKind.f64.format.order 4613937818241073152 0 = some .gt := by kernel_rfl
  have o4 : FloatKind.f64.format.order 4613937818241073152 4517329193108106637 = some .gt := by kernel_rfl
  have o5 : FloatKind.f64.format.order 4613937818241073152 4921056587992461136 = some .lt := by kernel_rfl
  have hsub : (binOp .sub 87 (.float .f64 4613937818241073152) (.float .f64 4613937818241073152)).run Tryz.prog w = .ok (.float .f64 0) w := by kernel_rfl
  go_enter Tryz.func38, Tryz.ntmps38
  go_wp2_with fail
  refine H.out.mono ?_
  rintro e w1 ⟨a', cap', rfl, hb1, hk1⟩
  have H1 := Hid.mk (And.intro hb1 hk1)
  clear hb1 hk1
  go_wp2_with fail
  go_ret2
  exact ⟨a', cap', rfl, H1.out⟩
set_option maxRecDepth 100000 in
set_option maxHeartbeats 1000000 in
theorem marshal3 (w : World) :
    Calls Tryz.prog 25 #[.iface 87 (.float .f64 4613937818241073152)] w fun e w' => ∃ a' cap', e = .returned (.tuple #[.slice a' 1 cap', .nilIface]) ∧ Buf w.heap.size w' a' 1 cap' [51] ∧ Kp [] w w' := by
  go_enter Tryz.func25, Tryz.ntmps25
  go_wp2_with fail
  obtain ⟨w1, hw1⟩ : ∃ w1, w1 = w.alloc (.cells #[] 5) := ⟨_, rfl⟩
  rw [← hw1]
  have hb1 : Buf w.heap.size w1 (some ⟨w.heap.size, 0, none⟩) 0 0 [] := by
    rw [hw1]
    exact ⟨rfl, .inr ⟨w.heap.size, 0, #[], rfl, Nat.le_refl _, heap_alloc_same _ _, Nat.le_refl _, by decide, rfl, rfl⟩⟩
  have hk1 : Kp [] w w1 := by rw [hw1]; exact (Kp.refl _ _).alloc _
  have H1 := Hid.mk (And.intro hb1 hk1)
  clear hw1 hb1 hk1
  refine (write3 w.heap.size 0 _ w1 H1.out.1 H1.out.2.size).mono ?_
  rintro e w2 ⟨a', cap', rfl, hb2, hk2⟩
  have H2 := Hid.mk (And.intro hb2 (H1.out.2.trans' hk2 (fun j hj hjl => by simp [rowOf] at hj; omega)))
  clear hb2 hk2
  go_wp2_with fail
  go_ret2
  exact ⟨a', cap', rfl, H2.out⟩
end Go.Proofs.YtpigmadopflfkaaGreatDoor
