/- The reading of the parts of a text of JSON. Condition: it is the text of a plain document. -/
import Derived.Test.YtpigmadopflfkaaGreatDoorRdA
import Derived.IntWalk
namespace Go.Proofs.YtpigmadopflfkaaGreatDoor
open Go.RowKit Go.BigFrame

theorem still_ok {P : Program} {f : FuncId} {args : Array Value} {w : World} {v : Value}
    (h : Calls P f args w fun e w' => e = .returned v ∧ w = w') : Calls P f args w fun e w'' => e = .returned v ∧ w'' = w :=
  h.mono fun _ _ ⟨he, hm⟩ => ⟨he, hm.symm⟩

set_option maxRecDepth 100000 in
set_option maxHeartbeats 1000000 in
theorem inside_comma (s : ByteArray) (i b c : Nat) (w : World) (hs : s.size < 1000000) (hc : ∃ h : i < s.size, (s[i]'h).toNat = c) (hnb : NB s (i + 1)) (hr : Rdr w b s i) (hc2 : c = 44) :
    Calls Tryz.prog 92 #[.pointer (some ⟨b, 0, none⟩)] w fun e w' => e = .returned (.bool true) ∧ Rdr w' b s (i + 1) ∧ Kp [b] w w' := by
  have Hn0 := Hid.mk (nb_of hc (by omega : 32 < c))
  obtain ⟨j, hj⟩ : ∃ j, j = i + 1 := ⟨_, rfl⟩
  rw [← hj] at hnb
  subst hc2
  have Hnb := Hid.mk hnb
  obtain ⟨h1, h1'⟩ := hc
  clear hnb
  have hr1 : Rdr (w.drew.setCell ⟨b, 1, none⟩ (.int .i64 i)) b s i := Rdr.setAt (w := w.drew) hr _ rfl
  have Hr1 := Hid.mk hr1
  have Hb := Hid.mk (lt_of_heap hr)
  have hcc := blk_cell hr
  have hff := blk_frozen hr
  have hj2 : (i : Int) + 1 = (j : Int) := by omega
  have Hj := Hid.mk hj
  clear hr hr1 hj
  go_enter Tryz.func92, Tryz.ntmps92
  go_wp2_with fail
  go_still_tail 10, (by kernel_rfl)
  still_call (still_ok (skip_nb s i _ Hn0.out))
  refine wpStill_nil ?_
  change wpList _ _ _ _ _ w.drew
  go_wp2_with fail
  obtain ⟨w1, hw1⟩ : ∃ w1, w1 = (w.setCell ⟨b, 1, none⟩ (.int .i64 (i : Int))).drew := ⟨_, rfl⟩
  have Hk1 : Hid (Kp [b] w w1) := Hid.mk (by rw [hw1]; exact ((Kp.refl _ _).setCell _ (.inl (by simp))).drew)
  have hr2 : Rdr w1 b s i := by rw [hw1]; exact Hr1.out
  have hcc := blk_cell hr2
  have hff := blk_frozen hr2
  have Hr2 := Hid.mk hr2
  rw [← hw1]
  clear hw1 Hr1 hr2
  go_quiet (fail)
  go_wp2_with fail
  obtain ⟨w2, hw2⟩ : ∃ w2, w2 = w1.drewN nq := ⟨_, rfl⟩
  have Hk2 : Hid (Kp [b] w w2) := Hid.mk (by rw [hw2]; exact Hk1.out.drewN _)
  have hr2 : Rdr w2 b s i := by rw [hw2]; exact Hr2.out
  rw [← hw2]
  clear hw2 Hk1 Hr2 hcc hff
  have hcc := blk_cell hr2
  have hff := blk_frozen hr2
  have hr3 : Rdr ((w2.setCell ⟨b, 1, none⟩ (.int .i64 j)).drew) b s j := Rdr.setAt (w := w2) hr2 _ rfl
  have Hr3 := Hid.mk hr3
  clear hr2 hr3
  have hjw : IntKind.i64.wrap (j : Int) = (j : Int) := IntWalk.i64_in _ (by omega)
  go_still_tail 11, (by kernel_rfl)
  clear hjw
  still_call (still_ok (skip_nb s j _ Hnb.out))
  refine wpStill_nil ?_
  change wpList _ _ _ _ _ w2.drew
  go_wp2_with fail
  obtain ⟨w3, hw3⟩ : ∃ w3, w3 = (w2.setCell ⟨b, 1, none⟩ (.int .i64 (j : Int))).drew := ⟨_, rfl⟩
  have Hk3 : Hid (Kp [b] w w3) := Hid.mk (by rw [hw3]; exact (Hk2.out.setCell _ (.inl (by simp))).drew)
  have hr2 : Rdr w3 b s j := by rw [hw3]; exact Hr3.out
  rw [← hw3]
  clear hw3 Hk2 Hr3 hcc hff
  have hcc := blk_cell hr2
  have hff := blk_frozen hr2
  have Hr3 := Hid.mk hr2
  clear hr2
  by_cases hlast : j < s.size
  · have hm : min (j : Int) ((s.size : Int) - 1) = (j : Int) := by omega
    go_quiet (fail)
    go_wp2_with fail
    go_ret
    exact ⟨rfl, (by rw [← Hj.out]; exact Hr3.out), Hk3.out.drewN _⟩
  · have hm : min (j : Int) (i : Int) = (i : Int) := by omega
    have hsz : (s.size : Int) - 1 = (i : Int) := by omega
    go_quiet (fail)
    go_wp2_with fail
    go_ret
    exact ⟨rfl, (by rw [← Hj.out]; exact Hr3.out), Hk3.out.drewN _⟩
set_option maxRecDepth 100000 in
set_option maxHeartbeats 1000000 in
theorem inside_open (s : ByteArray) (i b c : Nat) (w : World) (hs : s.size < 1000000) (hc : ∃ h : i < s.size, (s[i]'h).toNat = c) (hnb : NB s (i + 1)) (hr : Rdr w b s i) (hc2 : c = 91 ∨ c = 123) (d : Nat) (hd : ∃ h : i + 1 < s.size, (s[i + 1]'h).toNat = d) (hd2 : d ≠ c + 2) :
    Calls Tryz.prog 92 #[.pointer (some ⟨b, 0, none⟩)] w fun e w' => e = .returned (.bool true) ∧ Rdr w' b s (i + 1) ∧ Kp [b] w w' := by
  have Hn0 := Hid.mk (nb_of hc (by omega : 32 < c))
  obtain ⟨j, hj⟩ : ∃ j, j = i + 1 := ⟨_, rfl⟩
  rw [← hj] at hnb
  replace hd : ∃ h : j < s.size, (s[j]'h).toNat = d := by subst hj; exact hd
  obtain ⟨h2, h2'⟩ := hd
  have Hnb := Hid.mk hnb
  obtain ⟨h1, h1'⟩ := hc
  clear hnb
  have hr1 : Rdr (w.drew.setCell ⟨b, 1, none⟩ (.int .i64 i)) b s i := Rdr.setAt (w := w.drew) hr _ rfl
  have Hr1 := Hid.mk hr1
  have Hb := Hid.mk (lt_of_heap hr)
  have hcc := blk_cell hr
  have hff := blk_frozen hr
  have hj2 : (i : Int) + 1 = (j : Int) := by omega
  have Hj := Hid.mk hj
  clear hr hr1 hj
  go_enter Tryz.func92, Tryz.ntmps92
  go_wp2_with fail
  go_still_tail 10, (by kernel_rfl)
  still_call (still_ok (skip_nb s i _ Hn0.out))
  refine wpStill_nil ?_
  change wpList _ _ _ _ _ w.drew
  go_wp2_with fail
  obtain ⟨w1, hw1⟩ : ∃ w1, w1 = (w.setCell ⟨b, 1, none⟩ (.int .i64 (i : Int))).drew := ⟨_, rfl⟩
  have Hk1 : Hid (Kp [b] w w1) := Hid.mk (by rw [hw1]; exact ((Kp.refl _ _).setCell _ (.inl (by simp))).drew)
  have hr2 : Rdr w1 b s i := by rw [hw1]; exact Hr1.out
  have hcc := blk_cell hr2
  have hff := blk_frozen hr2
  have Hr2 := Hid.mk hr2
  rw [← hw1]
  clear hw1 Hr1 hr2
  go_quiet (fail)
  go_wp2_with fail
  obtain ⟨w2, hw2⟩ : ∃ w2, w2 = w1.drewN nq := ⟨_, rfl⟩
  have Hk2 : Hid (Kp [b] w w2) := Hid.mk (by rw [hw2]; exact Hk1.out.drewN _)
  have hr2 : Rdr w2 b s i := by rw [hw2]; exact Hr2.out
  rw [← hw2]
  clear hw2 Hk1 Hr2 hcc hff
  have hcc := blk_cell hr2
  have hff := blk_frozen hr2
  have hr3 : Rdr ((w2.setCell ⟨b, 1, none⟩ (.int .i64 j)).drew) b s j := Rdr.setAt (w := w2) hr2 _ rfl
  have Hr3 := Hid.mk hr3
  clear hr2 hr3
  have hjw : IntKind.i64.wrap (j : Int) = (j : Int) := IntWalk.i64_in _ (by omega)
  go_still_tail 11, (by kernel_rfl)
  clear hjw
  still_call (still_ok (skip_nb s j _ Hnb.out))
  refine wpStill_nil ?_
  change wpList _ _ _ _ _ w2.drew
  go_wp2_with fail
  obtain ⟨w3, hw3⟩ : ∃ w3, w3 = (w2.setCell ⟨b, 1, none⟩ (.int .i64 (j : Int))).drew := ⟨_, rfl⟩
  have Hk3 : Hid (Kp [b] w w3) := Hid.mk (by rw [hw3]; exact (Hk2.out.setCell _ (.inl (by simp))).drew)
  have hr2 : Rdr w3 b s j := by rw [hw3]; exact Hr3.out
  rw [← hw3]
  clear hw3 Hk2 Hr3 hcc hff
  have hcc := blk_cell hr2
  have hff := blk_frozen hr2
  have Hr3 := Hid.mk hr2
  clear hr2
  have hm : min (j : Int) ((s.size : Int) - 1) = (j : Int) := by omega
  rcases hc2 with rfl | rfl
  · have t1 : ((d : Int) != 93) = true := by rw [bne_iff_ne]; omega
    go_quiet (fail)
    go_wp2_with fail
    go_ret
    exact ⟨rfl, (by rw [← Hj.out]; exact Hr3.out), Hk3.out.drewN _⟩
  · have t1 : ((d : Int) != 125) = true := by rw [bne_iff_ne]; omega
    go_quiet (fail)
    go_wp2_with fail
    go_ret
    exact ⟨rfl, (by rw [← Hj.out]; exact Hr3.out), Hk3.out.drewN _⟩
set_option maxRecDepth 100000 in
set_option maxHeartbeats 1000000 in
theorem inside_none (s : ByteArray) (i b c : Nat) (w : World) (hs : s.size < 1000000) (hc : ∃ h : i < s.size, (s[i]'h).toNat = c) (hnb : NB s (i + 1)) (hr : Rdr w b s i) (hc2 : c = 91 ∨ c = 123) (d : Nat) (hd : ∃ h : i + 1 < s.size, (s[i + 1]'h).toNat = d) (hd2 : d = c + 2) :
    Calls Tryz.prog 92 #[.pointer (some ⟨b, 0, none⟩)] w fun e w' => e = .returned (.bool false) ∧ Rdr w' b s (i + 2) ∧ Kp [b] w w' := by
  have Hn0 := Hid.mk (nb_of hc (by omega : 32 < c))
  obtain ⟨j, hj⟩ : ∃ j, j = i + 1 := ⟨_, rfl⟩
  rw [← hj] at hnb
  replace hd : ∃ h : j < s.size, (s[j]'h).toNat = d := by subst hj; exact hd
  obtain ⟨h2, h2'⟩ := hd
  have Hnb := Hid.mk hnb
  obtain ⟨h1, h1'⟩ := hc
  clear hnb
  have hr1 : Rdr (w.drew.setCell ⟨b, 1, none⟩ (.int .i64 i)) b s i := Rdr.setAt (w := w.drew) hr _ rfl
  have Hr1 := Hid.mk hr1
  have Hb := Hid.mk (lt_of_heap hr)
  have hcc := blk_cell hr
  have hff := blk_frozen hr
  have hj2 : (i : Int) + 1 = (j : Int) := by omega
  have Hj := Hid.mk hj
  clear hr hr1 hj
  go_enter Tryz.func92, Tryz.ntmps92
  go_wp2_with fail
  go_still_tail 10, (by kernel_rfl)
  still_call (still_ok (skip_nb s i _ Hn0.out))
  refine wpStill_nil ?_
  change wpList _ _ _ _ _ w.drew
  go_wp2_with fail
  obtain ⟨w1, hw1⟩ : ∃ w1, w1 = (w.setCell ⟨b, 1, none⟩ (.int .i64 (i : Int))).drew := ⟨_, rfl⟩
  have Hk1 : Hid (Kp [b] w w1) := Hid.mk (by rw [hw1]; exact ((Kp.refl _ _).setCell _ (.inl (by simp))).drew)
  have hr2 : Rdr w1 b s i := by rw [hw1]; exact Hr1.out
  have hcc := blk_cell hr2
  have hff := blk_frozen hr2
  have Hr2 := Hid.mk hr2
  rw [← hw1]
  clear hw1 Hr1 hr2
  go_quiet (fail)
  go_wp2_with fail
  obtain ⟨w2, hw2⟩ : ∃ w2, w2 = w1.drewN nq := ⟨_, rfl⟩
  have Hk2 : Hid (Kp [b] w w2) := Hid.mk (by rw [hw2]; exact Hk1.out.drewN _)
  have hr2 : Rdr w2 b s i := by rw [hw2]; exact Hr2.out
  rw [← hw2]
  clear hw2 Hk1 Hr2 hcc hff
  have hcc := blk_cell hr2
  have hff := blk_frozen hr2
  have hr3 : Rdr ((w2.setCell ⟨b, 1, none⟩ (.int .i64 j)).drew) b s j := Rdr.setAt (w := w2) hr2 _ rfl
  have Hr3 := Hid.mk hr3
  clear hr2 hr3
  have hjw : IntKind.i64.wrap (j : Int) = (j : Int) := IntWalk.i64_in _ (by omega)
  go_still_tail 11, (by kernel_rfl)
  clear hjw
  still_call (still_ok (skip_nb s j _ Hnb.out))
  refine wpStill_nil ?_
  change wpList _ _ _ _ _ w2.drew
  go_wp2_with fail
  obtain ⟨w3, hw3⟩ : ∃ w3, w3 = (w2.setCell ⟨b, 1, none⟩ (.int .i64 (j : Int))).drew := ⟨_, rfl⟩
  have Hk3 : Hid (Kp [b] w w3) := Hid.mk (by rw [hw3]; exact (Hk2.out.setCell _ (.inl (by simp))).drew)
  have hr2 : Rdr w3 b s j := by rw [hw3]; exact Hr3.out
  rw [← hw3]
  clear hw3 Hk2 Hr3 hcc hff
  have hcc := blk_cell hr2
  have hff := blk_frozen hr2
  have Hr3 := Hid.mk hr2
  clear hr2
  have hm : min (j : Int) ((s.size : Int) - 1) = (j : Int) := by omega
  have hr4 := fun (n : Nat) => Rdr.setAt (w := w3.drewN n) Hr3.out ((j : Int) + 1) (k := j + 1) (by omega)
  have Hr4 := Hid.mk hr4
  clear hr4
  rcases hc2 with rfl | rfl
  · subst hd2
    have t1 : (((91 + 2 : Nat) : Int) != 93) = false := rfl
    go_quiet (fail)
    go_wp2_with fail
    go_ret
    exact ⟨rfl, (by rw [show i + 2 = j + 1 by have := Hj.out; omega]; exact Hr4.out nq), (Hk3.out.drewN _).setCell _ (.inl (by simp))⟩
  · subst hd2
    have t1 : (((123 + 2 : Nat) : Int) != 125) = false := rfl
    go_quiet (fail)
    go_wp2_with fail
    go_ret
    exact ⟨rfl, (by rw [show i + 2 = j + 1 by have := Hj.out; omega]; exact Hr4.out nq), (Hk3.out.drewN _).setCell _ (.inl (by simp))⟩
set_option maxRecDepth 100000 in
set_option maxHeartbeats 1000000 in
theorem inside_end (s : ByteArray) (i b c : Nat) (w : World) (hs : s.size < 1000000) (hc : ∃ h : i < s.size, (s[i]'h).toNat = c) (hnb : NB s (i + 1)) (hr : Rdr w b s i) (hc2 : c = 93 ∨ c = 125) :
    Calls Tryz.prog 92 #[.pointer (some ⟨b, 0, none⟩)] w fun e w' => e = .returned (.bool false) ∧ Rdr w' b s (i + 1) ∧ Kp [b] w w' := by
  have Hn0 := Hid.mk (nb_of hc (by omega : 32 < c))
  obtain ⟨j, hj⟩ : ∃ j, j = i + 1 := ⟨_, rfl⟩
  rw [← hj] at hnb

  have Hnb := Hid.mk hnb
  obtain ⟨h1, h1'⟩ := hc
  clear hnb
  have hr1 : Rdr (w.drew.setCell ⟨b, 1, none⟩ (.int .i64 i)) b s i := Rdr.setAt (w := w.drew) hr _ rfl
  have Hr1 := Hid.mk hr1
  have Hb := Hid.mk (lt_of_heap hr)
  have hcc := blk_cell hr
  have hff := blk_frozen hr
  have hj2 : (i : Int) + 1 = (j : Int) := by omega
  have Hj := Hid.mk hj
  clear hr hr1 hj
  go_enter Tryz.func92, Tryz.ntmps92
  go_wp2_with fail
  go_still_tail 10, (by kernel_rfl)
  still_call (still_ok (skip_nb s i _ Hn0.out))
  refine wpStill_nil ?_
  change wpList _ _ _ _ _ w.drew
  go_wp2_with fail
  obtain ⟨w1, hw1⟩ : ∃ w1, w1 = (w.setCell ⟨b, 1, none⟩ (.int .i64 (i : Int))).drew := ⟨_, rfl⟩
  have Hk1 : Hid (Kp [b] w w1) := Hid.mk (by rw [hw1]; exact ((Kp.refl _ _).setCell _ (.inl (by simp))).drew)
  have hr2 : Rdr w1 b s i := by rw [hw1]; exact Hr1.out
  have hcc := blk_cell hr2
  have hff := blk_frozen hr2
  have Hr2 := Hid.mk hr2
  rw [← hw1]
  clear hw1 Hr1 hr2
  go_quiet (fail)
  go_wp2_with fail
  obtain ⟨w2, hw2⟩ : ∃ w2, w2 = w1.drewN nq := ⟨_, rfl⟩
  have Hk2 : Hid (Kp [b] w w2) := Hid.mk (by rw [hw2]; exact Hk1.out.drewN _)
  have hr2 : Rdr w2 b s i := by rw [hw2]; exact Hr2.out
  rw [← hw2]
  clear hw2 Hk1 Hr2 hcc hff
  have hcc := blk_cell hr2
  have hff := blk_frozen hr2
  have hr3 : Rdr ((w2.setCell ⟨b, 1, none⟩ (.int .i64 j)).drew) b s j := Rdr.setAt (w := w2) hr2 _ rfl
  have Hr3 := Hid.mk hr3
  clear hr2 hr3
  have hjw : IntKind.i64.wrap (j : Int) = (j : Int) := IntWalk.i64_in _ (by omega)
  go_still_tail 11, (by kernel_rfl)
  clear hjw
  still_call (still_ok (skip_nb s j _ Hnb.out))
  refine wpStill_nil ?_
  change wpList _ _ _ _ _ w2.drew
  go_wp2_with fail
  obtain ⟨w3, hw3⟩ : ∃ w3, w3 = (w2.setCell ⟨b, 1, none⟩ (.int .i64 (j : Int))).drew := ⟨_, rfl⟩
  have Hk3 : Hid (Kp [b] w w3) := Hid.mk (by rw [hw3]; exact (Hk2.out.setCell _ (.inl (by simp))).drew)
  have hr2 : Rdr w3 b s j := by rw [hw3]; exact Hr3.out
  rw [← hw3]
  clear hw3 Hk2 Hr3 hcc hff
  have hcc := blk_cell hr2
  have hff := blk_frozen hr2
  have Hr3 := Hid.mk hr2
  clear hr2
  have q1 : ((c : Int) == 44) = false := by simp; omega
  have q2 : ((c : Int) == 123) = false := by simp; omega
  have q3 : ((c : Int) == 91) = false := by simp; omega
  by_cases hlast : j < s.size
  · have hm : min (j : Int) ((s.size : Int) - 1) = (j : Int) := by omega
    go_quiet (fail)
    go_wp2_with fail
    go_ret
    exact ⟨rfl, (by rw [← Hj.out]; exact Hr3.out), Hk3.out.drewN _⟩
  · have hm : min (j : Int) (i : Int) = (i : Int) := by omega
    have hsz : (s.size : Int) - 1 = (i : Int) := by omega
    go_quiet (fail)
    go_wp2_with fail
    go_ret
    exact ⟨rfl, (by rw [← Hj.out]; exact Hr3.out), Hk3.out.drewN _⟩
end Go.Proofs.YtpigmadopflfkaaGreatDoor
