/- diff (52) of two lists, and of two objects of one name: the patch gets one operation. -/
import Derived.Test.YtpigmadopflfkaaGreatDoorDfB
namespace Go.Proofs.YtpigmadopflfkaaGreatDoor
open Go.RowKit Go.BigFrame

set_option maxRecDepth 100000 in
set_option maxHeartbeats 2000000 in
theorem diffAdd_arr (x y z : Num) (hx : feq (fb x) (fb x) = true) (hyz : feq (fb y) (fb z) = false) : DiffAdd (.arr [x, y]) (.arr [x, z]) [47, 49] (fv z) (fv y) := by
  intro d B B' C w0 w v u a0 n0 cap0 cs0 key idx pk pi sep t hv0 hu0 hk0 hdl hdB hdB' hd hC hb hn ht
  have hsim : Sim (.arr [x, y]) (.arr [x, z]) := ⟨rfl, by simp⟩
  have he2 : deq (.arr [x, y]) (.arr [x, z]) = false := by simp [deq, deqL, hx, hyz]
  have hv := hv0.kept hk0 (by simpa using hdB)
  have hu := hu0.kept hk0 (by simpa using hdB')
  obtain ⟨a, cap, rfl, ho⟩ := hv0
  obtain ⟨a2, cap2, rfl, ho2⟩ := hu0
  have Hcall := Hid.mk (fun W hkW hdW hbW => arrays_add x y z hx hyz d B B' cap cap2 n0 cap0 a a2 a0 cs0 key idx pk pi sep t C w0 W ho ho2 hkW hdl hdB hdB' hdW hC hbW (by simp [hgt] at hn; omega) ht)
  have H := Hid.mk (And.intro hd (And.intro hC (And.intro hv (And.intro hu (And.intro hk0 hb)))))
  have Hs := Hid.mk (And.intro hsim he2)
  clear hd hC hsim he2 hv hu hk0 hb ho ho2 hn hdB hdB' hdl hx hyz ht
  go_enter Tryz.func52, Tryz.ntmps52
  go_wp2_with fail
  obtain ⟨p, hp⟩ : ∃ p, p = w.heap.size := ⟨_, rfl⟩
  have hk0 : Kp [] w (w.alloc (.cells #[.slice a0 n0 cap0, .string key, .int .i64 idx, .string pk, .int .i64 pi, .int .i64 sep] 64)) := (Kp.refl _ _).alloc _
  have hp1 : Ptr (w.alloc (.cells #[.slice a0 n0 cap0, .string key, .int .i64 idx, .string pk, .int .i64 pi, .int .i64 sep] 64)) p a0 n0 cap0 key idx pk pi sep := by rw [hp]; exact heap_alloc_same _ _
  rw [← hp]
  generalize w.alloc (.cells #[.slice a0 n0 cap0, .string key, .int .i64 idx, .string pk, .int .i64 pi, .int .i64 sep] 64) = w1 at hk0 hp1
  have hd4 : w1.cell? ⟨d, 4, none⟩ = some (.bool false) := ((H.out.1.kept hk0 (by simp)).cell 4 (by decide)).trans H.out.2.1.c4
  have H1 := Hid.mk (And.intro hk0 hp1)
  clear hk0 hp1 hp
  refine (isIgnored_any d n0 cap0 a0 key idx pk pi sep w1 hd4).mono ?_
  rintro e w2 ⟨rfl, hk2⟩
  have H2 := Hid.mk (And.intro (H1.out.1.trans hk2) (hk2.at H1.out.2 (by simp)))
  clear hk2 hd4
  go_wp2_with fail
  refine (comparable_any ((H.out.2.2.1.kept H2.out.1 (by simp)).mono (Nat.zero_le _)) ((H.out.2.2.2.1.kept H2.out.1 (by simp)).mono (Nat.zero_le _)) (sim_tag Hs.out.1) w2).mono ?_
  rintro e w' ⟨rfl, rfl⟩
  go_wp2_with fail
  refine (eq_any _ _ Hs.out.1 w2 B B' _ _ (H.out.2.2.1.kept H2.out.1 (by simp)) (H.out.2.2.2.1.kept H2.out.1 (by simp))).mono ?_
  rintro e w3 ⟨rfl, hk3⟩
  have hk3' := H2.out.1.trans hk3
  have hd3 := H.out.1.kept hk3' (by simp)
  have hc10 := (hd3.cell 10 (by decide)).trans H.out.2.1.c10
  have hc9 := (hd3.cell 9 (by decide)).trans H.out.2.1.c9
  have hcp := blk_cell (hk3.at H2.out.2 (by simp))
  have H3 := Hid.mk (And.intro hk3' hd3)
  clear hk3 hk3' hd3
  rw [Hs.out.2]
  have y119 := ta_yes119
  go_wp2_with fail
  go_still_tail 6, (by kernel_rfl)
  change wpList _ _ _ _ _ w3.drew
  clear hcp hc9 hc10
  go_wp2_with fail
  refine (Hcall.out w3.drew ((H.out.2.2.2.2.1.trans (H3.out.1.mono (by simp))).drew) H3.out.2 (H3.out.1.owns H.out.2.2.2.2.2 (by simp))).mono ?_
  rintro e w4 ⟨rfl, hadd, hk4, hb4⟩
  have hc6 := (hadd.cell (i := 6) (by decide) (by decide)).trans H.out.2.1.c6
  have H4 := Hid.mk (And.intro hadd (And.intro hk4 hb4))
  clear hadd hk4 hb4
  go_wp2_with fail
  exact bodyPost_end (results_none rfl _ _ _) rfl ⟨rfl, H4.out.1.mono H3.out.1.size, (H3.out.1.mono (T := d :: rowOf a0) (by simp)).drew.trans H4.out.2.1, H4.out.2.2⟩

set_option maxRecDepth 100000 in
set_option maxHeartbeats 2000000 in
theorem diffAdd_obj (k : Nat) (hk : keyOk k) (A1 A2 : J) (hs : Sim A1 A2) (he : deq A1 A2 = false) (rest : List Nat) (y x : Value) (ih : DiffAdd A1 A2 rest y x) : DiffAdd (.obj1 k A1) (.obj1 k A2) ([47, k] ++ rest) y x := by
  intro d B B' C w0 w v u a0 n0 cap0 cs0 key idx pk pi sep t hv0 hu0 hk0 hdl hdB hdB' hd hC hb hn ht
  have hsim : Sim (.obj1 k A1) (.obj1 k A2) := ⟨rfl, hk, hs⟩
  have he2 : deq (.obj1 k A1) (.obj1 k A2) = false := he
  have hv := hv0.kept hk0 (by simpa using hdB)
  have hu := hu0.kept hk0 (by simpa using hdB')
  obtain ⟨r1, va, rfl, hr1, hm1, ha1⟩ := hv0
  obtain ⟨r2, vc, rfl, hr2, hm2, ha2⟩ := hu0
  have Hcall := Hid.mk (fun W hkW hdW hbW => objects_one k hk A1 A2 rest y x ih d B B' r1 r2 C va vc n0 cap0 a0 cs0 key idx pk pi sep t w0 W hm1 hm2 hr1 hr2 ha1 ha2 ht hkW hdB hdB' hdW hC hbW (by simp [hgt] at hn; omega))
  have H := Hid.mk (And.intro hd (And.intro hC (And.intro hv (And.intro hu (And.intro hk0 hb)))))
  have Hs := Hid.mk (And.intro hsim he2)
  clear hd hC hsim he2 hv hu hk0 hb hn hdB hdB' hdl hr1 hm1 ha1 hr2 hm2 ha2 ht hk hs he
  go_enter Tryz.func52, Tryz.ntmps52
  go_wp2_with fail
  obtain ⟨p, hp⟩ : ∃ p, p = w.heap.size := ⟨_, rfl⟩
  have hk0 : Kp [] w (w.alloc (.cells #[.slice a0 n0 cap0, .string key, .int .i64 idx, .string pk, .int .i64 pi, .int .i64 sep] 64)) := (Kp.refl _ _).alloc _
  have hp1 : Ptr (w.alloc (.cells #[.slice a0 n0 cap0, .string key, .int .i64 idx, .string pk, .int .i64 pi, .int .i64 sep] 64)) p a0 n0 cap0 key idx pk pi sep := by rw [hp]; exact heap_alloc_same _ _
  rw [← hp]
  generalize w.alloc (.cells #[.slice a0 n0 cap0, .string key, .int .i64 idx, .string pk, .int .i64 pi, .int .i64 sep] 64) = w1 at hk0 hp1
  have hd4 : w1.cell? ⟨d, 4, none⟩ = some (.bool false) := ((H.out.1.kept hk0 (by simp)).cell 4 (by decide)).trans H.out.2.1.c4
  have H1 := Hid.mk (And.intro hk0 hp1)
  clear hk0 hp1 hp
  refine (isIgnored_any d n0 cap0 a0 key idx pk pi sep w1 hd4).mono ?_
  rintro e w2 ⟨rfl, hk2⟩
  have H2 := Hid.mk (And.intro (H1.out.1.trans hk2) (hk2.at H1.out.2 (by simp)))
  clear hk2 hd4
  go_wp2_with fail
  refine (comparable_any ((H.out.2.2.1.kept H2.out.1 (by simp)).mono (Nat.zero_le _)) ((H.out.2.2.2.1.kept H2.out.1 (by simp)).mono (Nat.zero_le _)) (sim_tag Hs.out.1) w2).mono ?_
  rintro e w' ⟨rfl, rfl⟩
  go_wp2_with fail
  refine (eq_any _ _ Hs.out.1 w2 B B' _ _ (H.out.2.2.1.kept H2.out.1 (by simp)) (H.out.2.2.2.1.kept H2.out.1 (by simp))).mono ?_
  rintro e w3 ⟨rfl, hk3⟩
  have hk3' := H2.out.1.trans hk3
  have hd3 := H.out.1.kept hk3' (by simp)
  have hc10 := (hd3.cell 10 (by decide)).trans H.out.2.1.c10
  have hcp := blk_cell (hk3.at H2.out.2 (by simp))
  have H3 := Hid.mk (And.intro hk3' hd3)
  clear hk3 hk3' hd3
  rw [Hs.out.2]
  have y121 := ta_yes121
  have n119 := ta_no119
  go_wp2_with fail
  go_still_tail 6, (by kernel_rfl)
  change wpList _ _ _ _ _ w3.drew
  clear hcp hc10
  go_wp2_with fail
  refine (Hcall.out w3.drew ((H.out.2.2.2.2.1.trans (H3.out.1.mono (by simp))).drew) H3.out.2 (H3.out.1.owns H.out.2.2.2.2.2 (by simp))).mono ?_
  rintro e w4 ⟨rfl, hadd, hk4, hb4⟩
  have hc6 := (hadd.cell (i := 6) (by decide) (by decide)).trans H.out.2.1.c6
  have H4 := Hid.mk (And.intro hadd (And.intro hk4 hb4))
  clear hadd hk4 hb4
  go_wp2_with fail
  exact bodyPost_end (results_none rfl _ _ _) rfl ⟨rfl, H4.out.1.mono H3.out.1.size, (H3.out.1.mono (T := d :: rowOf a0) (by simp)).drew.trans H4.out.2.1, H4.out.2.2⟩
end Go.Proofs.YtpigmadopflfkaaGreatDoor
