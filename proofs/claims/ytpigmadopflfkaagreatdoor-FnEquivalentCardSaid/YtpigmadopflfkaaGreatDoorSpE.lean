/- spec.read at the text 3, Value.Equal of two such numbers, and spec.Same at 3 and 3: true. Condition: the two package variables that strconv reads hold what start-up lays. -/
import Derived.Test.YtpigmadopflfkaaGreatDoorSpD
namespace Go.Proofs.YtpigmadopflfkaaGreatDoor
open Go.RowKit Go.BigFrame
set_option maxRecDepth 100000 in
set_option maxHeartbeats 1000000 in
theorem read3 (w : World) (hg : GL w) : Calls Tryz.prog 15 #[.string { data := #[51] }, .int .i64 1073741824] w fun e w' => ∃ v, e = .returned (.tuple #[.pointer (some ⟨v, 0, none⟩), .bool false]) ∧ w.heap.size ≤ v ∧ V3 w' v ∧ Kp [] w w' := by
  have hl : 7 < w.heap.size := World.block_lt_of_cell? _ _ hg.2
  have H := Hid.mk (And.intro hg hl)
  clear hg hl
  go_enter Tryz.func15, Tryz.ntmps15
  go_wp2_with fail
  refine (valid3 w).mono ?_
  rintro e w' ⟨rfl, rfl⟩
  go_wp2_with fail
  obtain ⟨r, hrd⟩ : ∃ r, r = w.heap.size := ⟨_, rfl⟩
  obtain ⟨w1, hw1⟩ : ∃ w1, w1 = w.alloc (.cells #[.string { data := #[51] }, .int .i64 0, .int .i64 0, .int .i64 1073741824, .bool false, .bool false, .bool false, .bool false, .bool false] 85) := ⟨_, rfl⟩
  rw [← hw1, ← hrd]
  have hr1 : R3 w1 r 0 0 := by rw [hw1, hrd]; exact heap_alloc_same _ _
  have hk1 : Kp [] w w1 := by rw [hw1]; exact (Kp.refl _ _).alloc _
  have h6 : r ≠ 6 := by have := H.out.2; omega
  have h7 : r ≠ 7 := by have := H.out.2; omega
  have Hne := Hid.mk (And.intro h6 h7)
  have H1 := Hid.mk (And.intro hr1 (And.intro hk1 hrd))
  clear hw1 hr1 hk1 hrd h6 h7
  refine (blanks0 r 0 w1 H1.out.1).mono ?_
  rintro e w2 ⟨rfl, k, hk⟩
  have hr2 : R3 w2 r 0 0 := by rw [hk]; exact H1.out.1.drewN k
  have hk2 : Kp [] w w2 := by rw [hk]; exact H1.out.2.1.drewN k
  have H2 := Hid.mk (And.intro hr2 hk2)
  clear hr2 hk2 hk
  go_wp2_with fail
  refine (value3 r w2 (H.out.1.kept H2.out.2 (by simp) (by simp)) H2.out.1 Hne.out.1 Hne.out.2).mono ?_
  rintro e w3 ⟨v, rfl, hv, hV, hr3, hk3⟩
  have hvr : v ≠ r := by have := lt_of_heap H2.out.1; omega
  have hrv : r ≠ v := fun e => hvr e.symm
  have hk3' : Kp [] w w3 := H2.out.2.trans' hk3 (fun j hj hjl => by have := H1.out.2.2; simp at hj; omega)
  have H3 := Hid.mk (And.intro hV (And.intro hr3 (And.intro hk3' (Nat.le_trans H2.out.2.size hv))))
  clear hV hr3 hk3 hk3' hv
  go_wp2_with fail
  refine (blanks1 r 0 w3 H3.out.2.1).mono ?_
  rintro e w4 ⟨rfl, k, hk⟩
  have hr4 : R3 w4 r 1 0 := by rw [hk]; exact H3.out.2.1.drewN k
  have hV4 : V3 w4 v := by rw [hk]; exact H3.out.1
  have hk4 : Kp [] w w4 := by rw [hk]; exact H3.out.2.2.1.drewN k
  have hc := blk_cell hr4
  have hcv := blk_cell hV4
  have hfv := blk_frozen hV4
  have H4 := Hid.mk (And.intro hV4 (And.intro hr4 hk4))
  clear hr4 hk4 hk hV4
  go_wp2_with fail
  obtain ⟨w5, hw5⟩ : ∃ w5, w5 = (w4.setCell ⟨v, 4, none⟩ (.bool false)).setCell ⟨v, 5, none⟩ (.bool false) := ⟨_, rfl⟩
  rw [← hw5]
  have hV5 : V3 w5 v := by rw [hw5]; exact heap_setCell_same (heap_setCell_same H4.out.1 4 _) 5 _
  have hr5 : R3 w5 r 1 0 := by
    rw [hw5]
    exact (heap_setCell_other (a := ⟨v, 5, none⟩) (by simpa using hrv) _).trans ((heap_setCell_other (a := ⟨v, 4, none⟩) (by simpa using hrv) _).trans H4.out.2.1)
  have hk5 : Kp [] w w5 := by rw [hw5]; exact (H4.out.2.2.setCell _ (.inr H3.out.2.2.2)).setCell _ (.inr H3.out.2.2.2)
  clear hc hcv hfv hw5
  have hc := blk_cell hr5
  have H5 := Hid.mk (And.intro hV5 hk5)
  clear hV5 hr5 hk5
  go_quiet (fail)
  go_wp2_with fail
  go_ret2
  exact ⟨v, rfl, H3.out.2.2.2, H5.out.1, H5.out.2.drewN _⟩

set_option maxRecDepth 100000 in
set_option maxHeartbeats 2000000 in
theorem equal3 (v x : Nat) (w : World) (h : V3 w v) (hx : V3 w x) : Calls Tryz.prog 16 #[.pointer (some ⟨v, 0, none⟩), .pointer (some ⟨x, 0, none⟩)] w fun e w' => e = .returned (.bool true) ∧ ∃ k, w' = w.drewN k := by
  have hc := blk_cell h
  have hcx := blk_cell hx
  clear h hx
  go_enter Tryz.func16, Tryz.ntmps16
  go_wp2_with fail
  go_quiet (fail)
  go_wp2_with fail
  apply wp_loop_once
  go_wp2_with fail
  apply wp_loop_once
  go_wp2_with fail
  go_quiet (fail)
  go_wp2_with fail
  go_ret
  exact ⟨rfl, _, by rw [World.drewN_drewN]⟩

set_option maxRecDepth 100000 in
set_option maxHeartbeats 1000000 in
theorem same3 (w : World) (hg : GL w) : Calls Tryz.prog 9 #[.string { data := #[51] }, .string { data := #[51] }] w fun e w' => e = .returned (.bool true) ∧ Kp [] w w' := by
  have H := Hid.mk hg
  clear hg
  go_enter Tryz.func9, Tryz.ntmps9
  go_wp2_with fail
  refine (read3 w H.out).mono ?_
  rintro e w1 ⟨v, rfl, hv, hV, hk⟩
  have H1 := Hid.mk (And.intro hV hk)
  clear hV hk hv
  go_wp2_with fail
  refine (read3 w1 (H.out.kept H1.out.2 (by simp) (by simp))).mono ?_
  rintro e w2 ⟨x, rfl, hx, hX, hk⟩
  have H2 := Hid.mk (And.intro hX hk)
  clear hX hk hx
  go_wp2_with fail
  refine (equal3 v x w2 (H2.out.2.at H1.out.1 (by simp)) H2.out.1).mono ?_
  rintro e w3 ⟨rfl, k, rfl⟩
  go_wp2_with fail
  go_ret
  exact ⟨rfl, (H1.out.2.trans H2.out.2).drewN k⟩
end Go.Proofs.YtpigmadopflfkaaGreatDoor
