/- strconv.ParseFloat at the text 3 and the reader's number and value there. Condition: the two package variables that strconv reads hold what start-up lays. -/
import Derived.Test.YtpigmadopflfkaaGreatDoorSpB
import Derived.StillTailTactics
import Derived.Defers
namespace Go.Proofs.YtpigmadopflfkaaGreatDoor
open Go.RowKit Go.BigFrame
/-- The two package variables that the reading of a number looks at. -/
def GL (w : World) : Prop := w.cell? ⟨6, 0, none⟩ = some (.bool true) ∧ w.cell? ⟨7, 0, none⟩ = some (.int .u64 52)
theorem GL.kept {w w' : World} {S : List Nat} (h : GL w) (hk : Kp S w w') (h6 : 6 ∉ S) (h7 : 7 ∉ S) : GL w' := ⟨hk.cell h.1 h6, hk.cell h.2 h7⟩
theorem b2_false (w : World) : Calls Tryz.prog 204 #[.bool false] w fun e w' => e = .returned (.int .u64 0) ∧ w = w' := by
  go_enter Tryz.func204, Tryz.ntmps204
  go_wp2_with fail
  go_ret
  exact ⟨rfl, rfl⟩
set_option maxRecDepth 100000 in
set_option maxHeartbeats 1000000 in
theorem atof64_3 (w : World) (hg : GL w) : Calls Tryz.prog 177 #[.string { data := #[51] }] w fun e w' => e = .returned (.tuple #[.float .f64 4613937818241073152, .int .i64 1, .nilIface]) ∧ w = w' := by
  have H := Hid.mk hg
  have h6 := hg.1
  clear hg
  go_enter Tryz.func177, Tryz.ntmps177
  go_wp2_with fail
  refine (special3 w).mono ?_
  rintro e w' ⟨rfl, rfl⟩
  go_wp2_with fail
  refine (readFloat3 w).mono ?_
  rintro e w' ⟨rfl, rfl⟩
  go_wp2_with fail
  refine (b2_false w).mono ?_
  rintro e w' ⟨rfl, rfl⟩
  go_wp2_with fail
  refine (exact3 w H.out.2).mono ?_
  rintro e w' ⟨rfl, rfl⟩
  go_wp2_with fail
  go_ret3
  exact ⟨rfl, rfl⟩
set_option maxRecDepth 100000 in
set_option maxHeartbeats 1000000 in
theorem prefix3 (w : World) (hg : GL w) : Calls Tryz.prog 133 #[.string { data := #[51] }, .int .i64 64] w fun e w' => e = .returned (.tuple #[.float .f64 4613937818241073152, .int .i64 1, .nilIface]) ∧ w = w' := by
  have H := Hid.mk hg
  clear hg
  go_enter Tryz.func133, Tryz.ntmps133
  go_wp2_with fail
  refine (atof64_3 w H.out).mono ?_
  rintro e w' ⟨rfl, rfl⟩
  go_wp2_with fail
  go_ret3
  exact ⟨rfl, rfl⟩
set_option maxRecDepth 100000 in
set_option maxHeartbeats 1000000 in
theorem parseIn3 (w : World) (hg : GL w) : Calls Tryz.prog 88 #[.string { data := #[51] }, .int .i64 64] w fun e w' => e = .returned (.tuple #[.float .f64 4613937818241073152, .nilIface]) ∧ w = w' := by
  have H := Hid.mk hg
  clear hg
  go_enter Tryz.func88, Tryz.ntmps88
  go_wp2_with fail
  refine (prefix3 w H.out).mono ?_
  rintro e w' ⟨rfl, rfl⟩
  go_wp2_with fail
  go_ret2
  exact ⟨rfl, rfl⟩
set_option maxRecDepth 100000 in
set_option maxHeartbeats 1000000 in
theorem parse3 (w : World) (hg : GL w) : Calls Tryz.prog 61 #[.string { data := #[51] }, .int .i64 64] w fun e w' => e = .returned (.tuple #[.float .f64 4613937818241073152, .nilIface]) ∧ w = w' := by
  have H := Hid.mk hg
  clear hg
  go_enter Tryz.func61, Tryz.ntmps61
  go_wp2_with fail
  refine (parseIn3 w H.out).mono ?_
  rintro e w' ⟨rfl, rfl⟩
  go_wp2_with fail
  go_ret2
  exact ⟨rfl, rfl⟩
theorem next0k (r : Nat) (dp : Int) (w : World) (h : R3 w r 0 dp) : Calls Tryz.prog 40 #[.pointer (some ⟨r, 0, none⟩)] w fun e w' => e = .returned (.int .u8 51) ∧ R3 w' r 0 dp ∧ Kp [r] w w' :=
  (next0 r dp w h).mono (by rintro e w' ⟨rfl, k, rfl⟩; exact ⟨rfl, h.drewN k, (Kp.refl _ _).drewN k⟩)
theorem next1k (r : Nat) (dp : Int) (w : World) (h : R3 w r 1 dp) : Calls Tryz.prog 40 #[.pointer (some ⟨r, 0, none⟩)] w fun e w' => e = .returned (.int .u8 0) ∧ R3 w' r 1 dp ∧ Kp [r] w w' :=
  (next1 r dp w h).mono (by rintro e w' ⟨rfl, k, rfl⟩; exact ⟨rfl, h.drewN k, (Kp.refl _ _).drewN k⟩)
theorem store_float_run : ∀ (b : Nat) (a : Addr) (m : Mode) (w : World), (store a (.float .f64 b) m).run Tryz.prog w = stored Tryz.prog w a (.float .f64 b) m := fun _ a m w => run_store Tryz.prog w a _ m rfl
/-- The number 3 as spec reads it, in block v. -/
def V3 (w : World) (v : Nat) : Prop :=
  w.heap[v]? = some (.cells #[.int .i64 2, .bool false, .float .f64 4613937818241073152, .string { data := #[51] }, .bool false, .bool false, .string { data := #[] }, .slice none 0 0, .slice none 0 0] 91)
set_option maxRecDepth 100000 in
set_option maxHeartbeats 1000000 in
theorem number3 (r : Nat) (dp : Int) (w : World) (hg : GL w) (h : R3 w r 0 dp) (h6 : r ≠ 6) (h7 : r ≠ 7) : Calls Tryz.prog 46 #[.pointer (some ⟨r, 0, none⟩)] w fun e w' => ∃ v, e = .returned (.pointer (some ⟨v, 0, none⟩)) ∧ w.heap.size ≤ v ∧ V3 w' v ∧ R3 w' r 1 dp ∧ Kp [r] w w' := by
  have hc := blk_cell h
  have H := Hid.mk (And.intro h hg)
  have Hne := Hid.mk (And.intro h6 h7)
  clear h hg h6 h7
  go_enter Tryz.func46, Tryz.ntmps46
  go_wp2_with fail
  clear hc
  refine (next0k r dp w H.out.1).mono ?_
  rintro e wa ⟨rfl, ha, hka⟩
  have Ha := Hid.mk (And.intro ha hka)
  clear ha hka
  go_wp2_with fail
  refine (next0k r dp wa Ha.out.1).mono ?_
  rintro e wb ⟨rfl, hb, hkb⟩
  have Hb := Hid.mk (And.intro hb (Ha.out.2.trans hkb))
  clear hb hkb
  go_wp2_with fail
  refine (digits3 r dp _ Hb.out.1).mono ?_
  rintro e wc ⟨rfl, hc, hkc⟩
  have Hc := Hid.mk (And.intro hc (Hb.out.2.trans hkc))
  clear hc hkc
  go_wp2_with fail
  refine (next1k r dp wc Hc.out.1).mono ?_
  rintro e wd ⟨rfl, hd, hkd⟩
  have Hd := Hid.mk (And.intro hd (Hc.out.2.trans hkd))
  clear hd hkd
  go_wp2_with fail
  refine (next1k r dp wd Hd.out.1).mono ?_
  rintro e w2 ⟨rfl, h2, hk2⟩
  have hk2' := Hd.out.2.trans hk2
  have hc := blk_cell h2
  have hf := blk_frozen h2
  have hrl := lt_of_heap h2
  have H2 := Hid.mk (And.intro h2 (And.intro hk2' hrl))
  clear h2 hk2 hk2' hrl
  go_upto_region 18 with (fail)
  obtain ⟨v, hv⟩ : ∃ v, v = w2.heap.size := ⟨_, rfl⟩
  obtain ⟨w3, hw3⟩ : ∃ w3, w3 = w2.alloc (.cells #[.int .i64 2, .bool false, .float .f64 0, .string { data := #[] }, .bool false, .bool false, .string { data := #[] }, .slice none 0 0, .slice none 0 0] 91) := ⟨_, rfl⟩
  have hv3 : w3.heap[v]? = some (.cells #[.int .i64 2, .bool false, .float .f64 0, .string { data := #[] }, .bool false, .bool false, .string { data := #[] }, .slice none 0 0, .slice none 0 0] 91) := by rw [hw3, hv]; exact heap_alloc_same _ _
  have hk3 : Kp [r] w w3 := by rw [hw3]; exact H2.out.2.1.alloc _
  have hr3 : R3 w3 r 1 dp := by rw [hw3]; exact (heap_alloc_lt H2.out.2.2 _).trans H2.out.1
  have hvr : v ≠ r := by have := H2.out.2.2; omega
  have hrv : r ≠ v := fun e => hvr e.symm
  have hvw : w.heap.size ≤ v := by rw [hv]; exact H2.out.2.1.size
  rw [← hw3, ← hv]
  clear hc hf hw3 hv
  have hc := blk_cell hr3
  have hf := blk_frozen hr3
  have hcv := blk_cell hv3
  have hfv := blk_frozen hv3
  have H3 := Hid.mk (And.intro hv3 (And.intro hk3 (And.intro hr3 hvw)))
  clear hv3 hk3 hr3 hvw
  go_wp2_with fail
  have hsl : ∀ W, (Instr.slice 9 (Value.string { data := #[51] }) (some (Value.int IntKind.i64 0)) (some (Value.int IntKind.i64 1)) none).run Tryz.prog W = .ok (.string { data := #[51] }) W := fun W => by kernel_rfl
  go_still_tail 11, (by kernel_rfl)
  change wpList _ _ _ _ _ w3.drew
  go_wp2_with fail
  obtain ⟨w4, hw4⟩ : ∃ w4, w4 = ((w3.setCell ⟨v, 3, none⟩ (.string { data := #[51] })).setCell ⟨r, 5, none⟩ (.bool false)).drew := ⟨_, rfl⟩
  rw [← hw4]
  have hv4 : w4.heap[v]? = some (.cells #[.int .i64 2, .bool false, .float .f64 0, .string { data := #[51] }, .bool false, .bool false, .string { data := #[] }, .slice none 0 0, .slice none 0 0] 91) := by
    rw [hw4]
    exact (heap_setCell_other (a := ⟨r, 5, none⟩) (by simpa using hvr) _).trans (heap_setCell_same H3.out.1 3 _)
  have hr4 : R3 w4 r 1 dp := by
    rw [hw4]
    exact heap_setCell_same ((heap_setCell_other (a := ⟨v, 3, none⟩) (by simpa using hrv) _).trans H3.out.2.2.1) 5 _
  have hk4 : Kp [r] w w4 := by
    rw [hw4]
    exact ((H3.out.2.1.setCell _ (.inr H3.out.2.2.2)).setCell _ (.inl (by simp))).drew
  have hg4 : GL w4 := H.out.2.kept hk4 (by simpa using fun e => Hne.out.1 e.symm) (by simpa using fun e => Hne.out.2 e.symm)
  have hvw := H3.out.2.2.2
  have H4 := Hid.mk (And.intro hv4 (And.intro hr4 (And.intro hk4 (And.intro hg4 hvw))))
  clear hc hf hcv hfv hw4 hsl
  have hc := blk_cell hr4
  have hf := blk_frozen hr4
  have hcv := blk_cell hv4
  have hfv := blk_frozen hv4
  clear hv4 hr4 hk4 hg4 hvw
  refine (parse3 w4 H4.out.2.2.2.1).mono ?_
  rintro e w' ⟨rfl, rfl⟩
  go_wp2_with fail
  have hsf := store_float_run
  go_region
  go_wp2_with fail
  refine bodyPost_ret (v := .pointer (some ⟨v, 0, none⟩)) (by simp [results, Tryz.results46, go_sem]) rfl ⟨v, rfl, H4.out.2.2.2.2, ?_, ?_, ?_⟩
  · exact (heap_setCell_other (a := ⟨r, 7, none⟩) (by simpa using hvr) _).trans (heap_setCell_same (heap_setCell_same H4.out.1 2 _) 4 _)
  · exact heap_setCell_same ((heap_setCell_other (a := ⟨v, 4, none⟩) (by simpa using hrv) _).trans ((heap_setCell_other (a := ⟨v, 2, none⟩) (by simpa using hrv) _).trans H4.out.2.1)) 7 _
  · exact (((H4.out.2.2.1.setCell _ (.inr H4.out.2.2.2.2)).setCell _ (.inr H4.out.2.2.2.2)).setCell _ (.inl (by simp))).drew
end Go.Proofs.YtpigmadopflfkaaGreatDoor

namespace Go.Proofs.YtpigmadopflfkaaGreatDoor
open Go.RowKit Go.BigFrame
set_option maxRecDepth 100000 in
set_option maxHeartbeats 1000000 in
theorem defer3 (c r : Nat) (i dp : Int) (w : World) (hp : w.cell? ⟨c, 0, none⟩ = some (.pointer (some ⟨r, 0, none⟩))) (h : R3 w r i (dp + 1)) (hdp : 0 ≤ dp ∧ dp < 1000000) :
    CallsD Tryz.prog 41 #[.pointer (some ⟨c, 0, none⟩)] .returning w fun e u' w' => u' = .returning ∧ e = .returned (.tuple #[]) ∧ R3 w' r i dp ∧ Kp [r] w w' := by
  have hc := blk_cell h
  have hf := blk_frozen h
  have H := Hid.mk h
  have e1 : IntKind.i64.wrap (dp + 1 - 1) = dp := by rw [show dp + 1 - 1 = dp by omega]; exact IntWalk.i64_in _ (by omega)
  clear h
  go_enter_d Tryz.func41, Tryz.ntmps41
  go_wp2_with fail
  refine bodyPost_end (results_none rfl _ _ _) rfl ⟨rfl, ?_, (Kp.refl _ _).setCell _ (.inl (by simp))⟩
  unfold R3; rw [heap_setCell_same H.out]
  rfl
set_option maxRecDepth 100000 in
set_option maxHeartbeats 1000000 in
theorem value3 (r : Nat) (w : World) (hg : GL w) (h : R3 w r 0 0) (h6 : r ≠ 6) (h7 : r ≠ 7) : Calls Tryz.prog 28 #[.pointer (some ⟨r, 0, none⟩)] w fun e w' => ∃ v, e = .returned (.pointer (some ⟨v, 0, none⟩)) ∧ w.heap.size ≤ v ∧ V3 w' v ∧ R3 w' r 1 0 ∧ Kp [r] w w' := by
  have hc := blk_cell h
  have hf := blk_frozen h
  have hrl := lt_of_heap h
  have H := Hid.mk (And.intro h (And.intro hg hrl))
  have Hne := Hid.mk (And.intro h6 h7)
  clear h hg h6 h7 hrl
  go_enter_defers Tryz.func28, Tryz.ntmps28
  go_upto_region 1 with (fail)
  obtain ⟨c, hcd⟩ : ∃ c, c = w.heap.size := ⟨_, rfl⟩
  obtain ⟨w1, hw1⟩ : ∃ w1, w1 = w.alloc (.cells #[.pointer (some ⟨r, 0, none⟩)] 82) := ⟨_, rfl⟩
  rw [← hw1, ← hcd]
  have hc1 : w1.heap[c]? = some (.cells #[.pointer (some ⟨r, 0, none⟩)] 82) := by rw [hw1, hcd]; exact heap_alloc_same _ _
  have hr1 : R3 w1 r 0 0 := by rw [hw1]; exact (heap_alloc_lt H.out.2.2 _).trans H.out.1
  have hk1 : Kp [r] w w1 := by rw [hw1]; exact (Kp.refl _ _).alloc _
  have hcr : c ≠ r := by have := H.out.2.2; omega
  have hrc : r ≠ c := fun e => hcr e.symm
  clear hc hf hw1
  have hc := blk_cell hr1
  have hf := blk_frozen hr1
  have hcc := blk_cell hc1
  have H1 := Hid.mk (And.intro hc1 (And.intro hr1 (And.intro hk1 hcd)))
  clear hc1 hr1 hk1 hcd
  go_wp2_with fail
  obtain ⟨w2, hw2⟩ : ∃ w2, w2 = w1.setCell ⟨r, 2, none⟩ (.int .i64 1) := ⟨_, rfl⟩
  rw [← hw2]
  have hr2 : R3 w2 r 0 1 := by rw [hw2]; exact heap_setCell_same H1.out.2.1 2 _
  have hc2 : w2.heap[c]? = some (.cells #[.pointer (some ⟨r, 0, none⟩)] 82) := by rw [hw2]; exact (heap_setCell_other (a := ⟨r, 2, none⟩) (by simpa using hcr) _).trans H1.out.1
  have hk2 : Kp [r] w w2 := by rw [hw2]; exact H1.out.2.2.1.setCell _ (.inl (by simp))
  clear hc hf hcc hw2
  have hc := blk_cell hr2
  have hcc := blk_cell hc2
  have H2 := Hid.mk (And.intro hc2 (And.intro hr2 hk2))
  clear hc2 hr2 hk2
  go_quiet (fail)
  go_wp2_with fail
  obtain ⟨w3, hw3⟩ : ∃ w3, w3 = w2.drewN nq := ⟨_, rfl⟩
  have hr3 : R3 w3 r 0 1 := by rw [hw3]; exact H2.out.2.1.drewN nq
  have hk3 : Kp [r] w w3 := by rw [hw3]; exact H2.out.2.2.drewN nq
  have hc3 : w3.heap[c]? = some (.cells #[.pointer (some ⟨r, 0, none⟩)] 82) := by rw [hw3]; exact H2.out.1
  rw [← hw3]
  clear hw3 hc hcc
  have hcc := blk_cell hc3
  have H3 := Hid.mk (And.intro hc3 (And.intro hr3 hk3))
  clear hr3 hk3 hc3
  refine (next0k r 1 w3 H3.out.2.1).mono ?_
  rintro e w4 ⟨rfl, hr4, hk4⟩
  have hc4 := hk4.at H3.out.1 (by simpa using hcr)
  have H4 := Hid.mk (And.intro hc4 (And.intro hr4 (H3.out.2.2.trans hk4)))
  clear hcc
  have hcc := blk_cell hc4
  clear hc4 hr4 hk4
  go_wp2_with fail
  refine (number3 r 1 w4 (H.out.2.1.kept H4.out.2.2 (by simpa using fun e => Hne.out.1 e.symm) (by simpa using fun e => Hne.out.2 e.symm)) H4.out.2.1 Hne.out.1 Hne.out.2).mono ?_
  rintro e w5 ⟨v, rfl, hv, hV, hr5, hk5⟩
  have hc5 := hk5.at H4.out.1 (by simpa using hcr)
  have hvr : v ≠ r := by have := lt_of_heap H4.out.2.1; omega
  have H5 := Hid.mk (And.intro hV (And.intro hr5 (And.intro (H4.out.2.2.trans hk5) (And.intro (Nat.le_trans H4.out.2.2.size hv) hvr))))
  have hcc5 := blk_cell hc5 0
  clear hcc hV hr5 hk5 hv hc5 hvr
  go_wp2_with fail
  refine leaves_cons (f := 41) (args := #[.pointer (some ⟨c, 0, none⟩)]) (by simp) (by simp [go_sem]) ?_
  refine (defer3 c r 1 0 w5 hcc5 H5.out.2.1 (by omega)).mono ?_
  rintro e u' w6 ⟨rfl, rfl, hr6, hk6⟩
  have hf : V3 w6 v ∧ R3 w6 r 1 0 ∧ Kp [r] w w6 := ⟨hk6.at H5.out.1 (by simpa using H5.out.2.2.2.2), hr6, H5.out.2.2.1.trans hk6⟩
  exact ⟨_, results_tmp rfl _ _ _, v, rfl, H5.out.2.2.2.1, hf⟩
end Go.Proofs.YtpigmadopflfkaaGreatDoor
