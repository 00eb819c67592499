/- diff, Compare and compareJSON leave no operation where the option Equivalent is on. Condition: the documents are one up to the order of their lists. -/
import Derived.Test.YtpigmadopflfkaaGreatDoorObA
namespace Go.Proofs.YtpigmadopflfkaaGreatDoor
open Go.RowKit Go.BigFrame

theorem diffOk_num (x : Num) (hx : feq (fb x) (fb x) = true) : DiffOk (.num x) (.num x) := by
  intro d B B' C w0 w v u a0 n0 cap0 cs0 key idx pk pi sep t hv hu hk0 hdl hdB hdB' hd hC hb hn
  refine (diff_same (.num x) (.num x) trivial hx d B B' n0 cap0 a0 key idx pk pi sep t C v u true w hd hC hv hu).mono ?_
  rintro e w' ⟨rfl, hk⟩
  exact ⟨rfl, hd.kept hk (by simp), hk.mono (by simp), hk.owns hb (by simp)⟩
theorem diffOk_arr (l m : List Num) (hlm : l.length = m.length) (hl6 : l.length < 1000000) (hperm : ∀ x ∈ m, fb x ∈ l.map fb) : DiffOk (.arr l) (.arr m) := by
  intro d B B' C w0 w v u a0 n0 cap0 cs0 key idx pk pi sep t hv hu hk0 hdl hdB hdB' hd hC hb hn
  refine (diff_arr l m hlm hl6 hperm d B B' n0 cap0 a0 key idx pk pi sep t C v u w hd hC (hv.kept hk0 (by simpa using hdB)) (hu.kept hk0 (by simpa using hdB')) hdB hdB').mono ?_
  rintro e w' ⟨rfl, hd', hk⟩
  refine ⟨rfl, hd', hk.mono (by simp), hk.owns hb (fun j hj e => ?_)⟩
  have h1 := (hb.lt j hj).1
  simp at e
  omega

set_option maxRecDepth 100000 in
set_option maxHeartbeats 2000000 in
theorem diffOk_obj2 (k m : Nat) (hkm : k < m) (A1 B1 A2 B2 : J) (hsim : Sim (.obj2 k A1 m B1) (.obj2 k A2 m B2)) (ihA : DiffOk A1 A2) (ihB : DiffOk B1 B2) : DiffOk (.obj2 k A1 m B1) (.obj2 k A2 m B2) := by
  intro d B B' C w0 w v u a0 n0 cap0 cs0 key idx pk pi sep t hv0 hu0 hk0 _ hdB hdB' hd hC hb hn
  have hv := hv0.kept hk0 (by simpa using hdB)
  have hu := hu0.kept hk0 (by simpa using hdB')
  by_cases he : deq (.obj2 k A1 m B1) (.obj2 k A2 m B2) = true
  · refine (diff_same _ _ hsim he d B B' n0 cap0 a0 key idx pk pi sep t C v u true w hd hC hv hu).mono ?_
    rintro e w' ⟨rfl, hk⟩
    exact ⟨rfl, hd.kept hk (by simp), hk.mono (by simp), hk.owns hb (by simp)⟩
  have he2 : deq (.obj2 k A1 m B1) (.obj2 k A2 m B2) = false := by simpa using he
  obtain ⟨r1, va, vb, rfl, hr1, hm1, ha1, hb1⟩ := hv0
  obtain ⟨r2, vc, vd, rfl, hr2, hm2, ha2, hb2⟩ := hu0
  have hcall := fun W hkW hdW hbW => objects_eqv k m hsim.2.2.1 hsim.2.2.2.1 hkm A1 B1 A2 B2 ihA ihB d B B' r1 r2 C va vb vc vd n0 cap0 a0 cs0 key idx pk pi sep t w0 W hm1 hm2 hr1 hr2 ha1 hb1 ha2 hb2 hkW hdB hdB' hdW hC hbW (by simp [hgt] at hn; omega) (by simp [hgt] at hn; omega)
  have Hcall := Hid.mk hcall
  have H := Hid.mk (And.intro hd (And.intro hC (And.intro hv (And.intro hu (And.intro hk0 hb)))))
  have Hs := Hid.mk (And.intro hsim he2)
  clear hd hC hsim he he2 hv hu hcall hk0 hb hm1 hm2 ha1 hb1 ha2 hb2 hr1 hr2 hn hdB hdB'
  go_enter Tryz.func52, Tryz.ntmps52
  go_wp2_with fail
  obtain ⟨p, hp⟩ : ∃ p, p = w.heap.size := ⟨_, rfl⟩
  have hk0 : Kp [] w (w.alloc (.cells #[.slice a0 n0 cap0, .string key, .int .i64 idx, .string pk, .int .i64 pi, .int .i64 sep] 64)) := (Kp.refl _ _).alloc _
  have hp1 : Ptr (w.alloc (.cells #[.slice a0 n0 cap0, .string key, .int .i64 idx, .string pk, .int .i64 pi, .int .i64 sep] 64)) p a0 n0 cap0 key idx pk pi sep := by rw [hp]; exact heap_alloc_same _ _
  rw [← hp]
  generalize w.alloc (.cells #[.slice a0 n0 cap0, .string key, .int .i64 idx, .string pk, .int .i64 pi, .int .i64 sep] 64) = w1 at hk0 hp1
  have hd4 : w1.cell? ⟨d, 4, none⟩ = some (.bool false) := ((H.out.1.kept hk0 (by simp)).cell 4 (by decide)).trans H.out.2.1.c4
  have H1 := Hid.mk (And.intro hk0 hp1)
  clear hk0 hp1 hp
  refine (isIgnored_any d n0 cap0 a0 key idx pk pi sep w1 hd4).mono ?_
  rintro e w2 ⟨rfl, hk2⟩
  have H2 := Hid.mk (And.intro (H1.out.1.trans hk2) (hk2.at H1.out.2 (by simp)))
  clear hk2 hd4
  go_wp2_with fail
  refine (comparable_any ((H.out.2.2.1.kept H2.out.1 (by simp)).mono (Nat.zero_le _)) ((H.out.2.2.2.1.kept H2.out.1 (by simp)).mono (Nat.zero_le _)) (sim_tag Hs.out.1) w2).mono ?_
  rintro e w' ⟨rfl, rfl⟩
  go_wp2_with fail
  refine (eq_any _ _ Hs.out.1 w2 B B' _ _ (H.out.2.2.1.kept H2.out.1 (by simp)) (H.out.2.2.2.1.kept H2.out.1 (by simp))).mono ?_
  rintro e w3 ⟨rfl, hk3⟩
  have hk3' := H2.out.1.trans hk3
  have hd3 := H.out.1.kept hk3' (by simp)
  have hc10 := (hd3.cell 10 (by decide)).trans H.out.2.1.c10
  have hcp := blk_cell (hk3.at H2.out.2 (by simp))
  have H3 := Hid.mk (And.intro hk3' hd3)
  clear hk3 hk3' hd3
  rw [Hs.out.2]
  have y121 := ta_yes121
  have n119 := ta_no119
  go_wp2_with fail
  go_still_tail 6, (by kernel_rfl)
  change wpList _ _ _ _ _ w3.drew
  clear hcp hc10
  go_wp2_with fail
  refine (Hcall.out w3.drew ((H.out.2.2.2.2.1.trans (H3.out.1.mono (by simp))).drew) H3.out.2 (H3.out.1.owns H.out.2.2.2.2.2 (by simp))).mono ?_
  rintro e w4 ⟨rfl, hd4, hk4, hb4⟩
  have hc6 := (hd4.cell 6 (by decide)).trans H.out.2.1.c6
  have H4 := Hid.mk (And.intro hd4 (And.intro hk4 hb4))
  clear hd4 hk4 hb4
  go_wp2_with fail
  exact bodyPost_end (results_none rfl _ _ _) rfl ⟨rfl, H4.out.1, (H3.out.1.mono (T := d :: rowOf a0) (by simp)).drew.trans H4.out.2.1, H4.out.2.2⟩
end Go.Proofs.YtpigmadopflfkaaGreatDoor

namespace Go.Proofs.YtpigmadopflfkaaGreatDoor
open Go.RowKit Go.BigFrame

set_option maxRecDepth 100000 in
set_option maxHeartbeats 1000000 in
theorem b2s_any (g cap : Nat) (cs : List Nat) (w : World) (h : Byt w g cs) :
    Calls Tryz.prog 53 #[.slice (some ⟨g, 0, none⟩) cs.length cap] w fun e w' => e = .returned (.string (txt cs)) ∧ w = w' := by
  have hs := str_byt (cap := cap) h
  clear h
  go_enter Tryz.func53, Tryz.ntmps53
  go_wp2_with fail
  go_ret
  exact ⟨rfl, rfl⟩

set_option maxRecDepth 100000 in
set_option maxHeartbeats 2000000 in
theorem compare_eqv (a b : J) (ih : DiffOk a b) (d B B' g cap : Nat) (C : Array Value) (v u : Value) (cs : List Nat) (w : World) (hv : Rep B w a v) (hu : Rep B' w b u) (hdB : d < B) (hdB' : d < B') (hd : Dif w d C) (hC : Opt C true)
    (hby : Byt w g cs) (h12 : C[12]? = some (.slice (some ⟨g, 0, none⟩) cs.length cap)) (h13 : C[13]? = some (.slice none 0 0)) (h14 : C[14]? = some (.string .empty)) (h15 : C[15]? = some (.int .i64 0)) (h16 : C[16]? = some (.string .empty)) (h17 : C[17]? = some (.int .i64 0)) (h18 : C[18]? = some (.int .i64 0)) (hh : hgt a < 400) :
    Calls Tryz.prog 31 #[.pointer (some ⟨d, 0, none⟩), v, u] w fun e w' => e = .returned (.tuple #[]) ∧ Dif w' d C ∧ Kp [d] w w' := by
  have c5 := (hd.cell 5 (by decide)).trans hC.c5
  have c6 := (hd.cell 6 (by decide)).trans hC.c6
  have c12 := (hd.cell 12 (by decide)).trans h12
  have c13 := (hd.cell 13 (by decide)).trans h13
  have c14 := (hd.cell 14 (by decide)).trans h14
  have c15 := (hd.cell 15 (by decide)).trans h15
  have c16 := (hd.cell 16 (by decide)).trans h16
  have c17 := (hd.cell 17 (by decide)).trans h17
  have c18 := (hd.cell 18 (by decide)).trans h18
  have H := Hid.mk (And.intro hv (And.intro hu (And.intro hd (And.intro hC hby))))
  have Hb := Hid.mk (And.intro hdB hdB')
  clear hv hu hdB hdB' hd hC hby h12 h13 h14 h15 h16 h17 h18
  go_enter Tryz.func31, Tryz.ntmps31
  go_wp2_with fail
  go_still_tail 12, (by kernel_rfl)
  still_call (still_ok (b2s_any g cap cs w.drew H.out.2.2.2.2))
  refine wpStill_nil ?_
  change wpList _ _ _ _ _ w.drew
  clear c5 c6 c12 c13 c14 c15 c16 c17 c18
  go_wp2_with fail
  refine (ih d B B' C w w.drew v u none 0 0 [] .empty 0 .empty 0 0 (txt cs) H.out.1 H.out.2.1 (Kp.refl _ _).drew H.out.2.2.1.lt Hb.out.1 Hb.out.2 H.out.2.2.1 H.out.2.2.2.1 ⟨rfl, .inl ⟨rfl, rfl⟩⟩ (by omega)).mono ?_
  rintro e w4 ⟨rfl, hd4, hk4, _⟩
  have H4 := Hid.mk (And.intro hd4 hk4)
  clear hd4 hk4
  go_wp2_with fail
  exact bodyPost_end (results_none rfl _ _ _) rfl ⟨rfl, H4.out.1, (Kp.refl [d] w).drew.trans (H4.out.2.mono (by simp [rowOf]))⟩
end Go.Proofs.YtpigmadopflfkaaGreatDoor

namespace Go.Proofs.YtpigmadopflfkaaGreatDoor
open Go.RowKit Go.BigFrame

/-- The differ's pointer at its start. -/
structure Zro (C : Array Value) : Prop where
  c13 : C[13]? = some (.slice none 0 0)
  c14 : C[14]? = some (.string .empty)
  c15 : C[15]? = some (.int .i64 0)
  c16 : C[16]? = some (.string .empty)
  c17 : C[17]? = some (.int .i64 0)
  c18 : C[18]? = some (.int .i64 0)
theorem Dif.set12 {w : World} {d : Nat} {C : Array Value} (h : Dif w d C) (v : Value) : Dif (w.setCell ⟨d, 12, none⟩ v) d (C.setIfInBounds 12 v) := by
  obtain ⟨s, h⟩ := h
  refine ⟨s, ?_⟩
  rw [heap_setCell_same h, Array.setIfInBounds_comm _ _ (by decide)]
theorem Opt.set12 {C : Array Value} {o : Bool} (h : Opt C o) (v : Value) : Opt (C.setIfInBounds 12 v) o := by
  obtain ⟨h1, h2, h3, h4, h5, h6, h7, h8⟩ := h
  constructor <;> first | (simpa using h1) | (rw [Array.getElem?_setIfInBounds_ne (by decide)]; assumption)

theorem nilf_run (w : World) : (binOp BinOp.eql 58 Value.nilFunc Value.nilFunc).run Tryz.prog w = .ok (.bool true) w := by kernel_rfl

set_option maxRecDepth 100000 in
set_option maxHeartbeats 2000000 in
theorem compareJSON_eqv (a b : J) (ih : DiffOk a b) (hva : JV a) (hvb : JV b) (hha : hgt a < 400) (hhb : hgt b < 400) (d g1 g2 cap1 cap2 : Nat) (C : Array Value) (w : World) (hd : Dif w d C) (hC : Opt C true) (hZ : Zro C)
    (hl1 : (enc a).length < 1000000) (hl2 : (enc b).length < 1000000) (hb1 : Byt w g1 (enc a)) (hb2 : Byt w g2 (enc b)) (hg1 : g1 < w.heap.size) (hg2 : g2 < w.heap.size) (hgd : g2 ≠ d) :
    Calls Tryz.prog 18 #[.pointer (some ⟨d, 0, none⟩), .slice (some ⟨g1, 0, none⟩) (enc a).length cap1, .slice (some ⟨g2, 0, none⟩) (enc b).length cap2, .nilFunc] w fun e w' =>
      e = .returned (.tuple #[.slice none 0 0, .nilIface]) ∧ Kp [d] w w' := by
  have H := Hid.mk (And.intro hd (And.intro hC (And.intro hZ (And.intro hb1 hb2))))
  clear hd hC hZ hb1 hb2
  have hnf := nilf_run
  go_enter Tryz.func18, Tryz.ntmps18
  go_upto_region 4 with (fail)
  clear hnf
  obtain ⟨p1, hp1⟩ : ∃ p1, p1 = w.heap.size := ⟨_, rfl⟩
  obtain ⟨p2, hp2⟩ : ∃ p2, p2 = w.heap.size + 1 := ⟨_, rfl⟩
  obtain ⟨w1, hw1⟩ : ∃ w1, w1 = (w.alloc (.cells #[.nilIface] 20)).alloc (.cells #[.nilIface] 20) := ⟨_, rfl⟩
  rw [← hw1, ← hp2, ← hp1]
  have hk1 : Kp [] w w1 := by rw [hw1]; exact ((Kp.refl _ _).alloc _).alloc _
  have hc1 : w1.heap[p1]? = some (.cells #[.nilIface] 20) := by rw [hw1, hp1]; exact (heap_alloc_lt (by simp) _).trans (heap_alloc_same _ _)
  have hc2 : w1.heap[p2]? = some (.cells #[.nilIface] 20) := by
    rw [hw1, hp2]
    have := heap_alloc_same (w.alloc (.cells #[.nilIface] 20)) (.cells #[.nilIface] 20)
    simpa using this
  have H1 := Hid.mk (And.intro hk1 (And.intro hc1 (And.intro hc2 (And.intro hp1 hp2))))
  clear hw1 hk1 hc1 hc2 hp1 hp2
  go_wp2_with fail
  have hdl := H.out.1.lt
  have Hl := Hid.mk (And.intro hdl (And.intro hg1 (And.intro hg2 hgd)))
  clear hdl hg1 hg2 hgd
  refine (unm_any a g1 p1 cap1 .nilIface w1 hva (by omega) hl1 (H.out.2.2.2.1.kept H1.out.1 (by simp)) H1.out.2.1).mono ?_
  rintro e w2 ⟨rfl, v, hp1, hrep, hk2⟩
  have hp2 := hk2.at H1.out.2.2.1 (by have := H1.out.2.2.2; simp; omega)
  have hkw2 : Kp [] w w2 := H1.out.1.trans' hk2 (fun j hj hjl => by have := H1.out.2.2.2; simp at hj; omega)
  have H2 := Hid.mk (And.intro hp1 (And.intro hrep (And.intro hk2 (And.intro hp2 hkw2))))
  clear hp1 hrep hk2 hp2 hkw2
  go_wp2_with fail
  refine (unm_any b g2 p2 cap2 .nilIface w2 hvb (by omega) hl2 (H.out.2.2.2.2.kept H2.out.2.2.2.2 (by simp)) H2.out.2.2.2.1).mono ?_
  rintro e w3 ⟨rfl, u, hp2, hrep, hk3⟩
  have hp1 := hk3.at H2.out.1 (by have := H1.out.2.2.2; simp; omega)
  have hkw3 : Kp [] w w3 := H2.out.2.2.2.2.trans' hk3 (fun j hj hjl => by have := H1.out.2.2.2; simp at hj; omega)
  have hd3 := H.out.1.kept hkw3 (by simp)
  have hr1 : Rep w.heap.size w3 a v := (Rep.kept (S := [p2]) hk3 (fun j hj => by have := lt_of_heap H1.out.2.2.1; simp at hj; omega) H2.out.2.1).mono H1.out.1.size
  have hc12 := hd3.cell 12 (by decide)
  have hff : w3.frozen? ⟨d, 12, none⟩ = false := by obtain ⟨s, hs⟩ := hd3; exact blk_frozen hs 12
  have hcp1 := blk_cell hp1
  have hcp2 := blk_cell hp2
  have h12 : 12 < C.size := by have := H.out.2.1.size; omega
  obtain ⟨v12, hv12⟩ : ∃ x, C[12]? = some x := ⟨_, Array.getElem?_eq_getElem h12⟩
  rw [hv12] at hc12
  have hdp1 : d ≠ p1 := by have := H1.out.2.2.2; have := Hl.out.1; omega
  have hdp2 : d ≠ p2 := by have := H1.out.2.2.2; have := Hl.out.1; omega
  have H3 := Hid.mk (And.intro hrep (And.intro hkw3 (And.intro hd3 (And.intro hr1 h12))))
  clear hp2 hp1 hrep hk3 hkw3 hd3 hr1 h12 hv12
  obtain ⟨ty, x, rfl⟩ := H3.out.1.iface
  obtain ⟨ty1, x1, rfl⟩ := H3.out.2.2.2.1.iface
  go_wp2_with fail
  have hk4 : Kp [d] w3 (w3.setCell ⟨d, 12, none⟩ (.slice (some ⟨g2, 0, none⟩) (enc b).length cap2)) := (Kp.refl _ _).setCell _ (.inl (by simp))
  have hd4 := H3.out.2.2.1.set12 (.slice (some ⟨g2, 0, none⟩) (enc b).length cap2)
  have hs := H.out.2.1.size
  have hZ := H.out.2.2.1
  have hdw2 : d < w2.heap.size := by have := H2.out.2.2.2.2.size; have := Hl.out.1; omega
  refine (compare_eqv a b ih d w.heap.size w2.heap.size g2 cap2 (C.setIfInBounds 12 (.slice (some ⟨g2, 0, none⟩) (enc b).length cap2)) _ _ (enc b) _ (H3.out.2.2.2.1.kept hk4 (by have := Hl.out.1; simpa using this)) (H3.out.1.kept hk4 (by simpa using hdw2)) Hl.out.1 hdw2 hd4 (H.out.2.1.set12 _)
    (((H.out.2.2.2.2.kept H3.out.2.1 (by simp))).kept hk4 (by simpa using Hl.out.2.2.2)) (by simp [hs])
    (by rw [Array.getElem?_setIfInBounds_ne (by decide)]; exact hZ.c13) (by rw [Array.getElem?_setIfInBounds_ne (by decide)]; exact hZ.c14) (by rw [Array.getElem?_setIfInBounds_ne (by decide)]; exact hZ.c15)
    (by rw [Array.getElem?_setIfInBounds_ne (by decide)]; exact hZ.c16) (by rw [Array.getElem?_setIfInBounds_ne (by decide)]; exact hZ.c17) (by rw [Array.getElem?_setIfInBounds_ne (by decide)]; exact hZ.c18) hha).mono ?_
  rintro e w5 ⟨rfl, hd5, hk5⟩
  have hc10 := (hd5.cell 10 (by decide)).trans (H.out.2.1.set12 (.slice (some ⟨g2, 0, none⟩) (enc b).length cap2)).c10
  have H5 := Hid.mk ((H3.out.2.1.mono (T := [d]) (by simp)).trans (hk4.trans hk5))
  clear hk4 hd4 hs hZ hdw2 hd5 hk5 hcp1 hcp2 hc12
  go_wp2_with fail
  go_ret2
  exact ⟨rfl, H5.out⟩
end Go.Proofs.YtpigmadopflfkaaGreatDoor
