/- Options.list, applyOpts, Compare, compareJSON and CompareJSON where no option was asked for and two documents differ in one number: a patch of one operation. -/
import Derived.Test.YtpigmadopflfkaaGreatDoorDfC
namespace Go.Proofs.YtpigmadopflfkaaGreatDoor
open Go.RowKit Go.BigFrame

set_option maxRecDepth 100000 in
set_option maxHeartbeats 2000000 in
theorem list_none (w : World) : Calls Tryz.prog 13 #[.agg #[.bool false, .bool false, .bool false, .bool false, .bool false, .slice none 0 0]] w fun e w' => ∃ sa cap, e = .returned (.slice sa 1 cap) ∧ Kp [] w w' ∧
    ∃ q, w'.ownsRow w.heap.size 76 1 (.slice sa 1 cap) 1 [.func (.func 37) #[] #[.pointer (some ⟨q, 0, none⟩)]] ∧ w'.heap[q]? = some (.cells #[.slice none 0 0] 26) := by
  go_enter Tryz.func13, Tryz.ntmps13
  go_wp2_with fail
  obtain ⟨p, hp⟩ : ∃ p, p = w.heap.size := ⟨_, rfl⟩
  obtain ⟨w1, hw1⟩ : ∃ w1, w1 = w.alloc (.cells #[.bool false, .bool false, .bool false, .bool false, .bool false, .slice none 0 0] 34) := ⟨_, rfl⟩
  rw [← hw1]
  have hk1 : Kp [] w w1 := by rw [hw1]; exact (Kp.refl _ _).alloc _
  have H1 := Hid.mk hk1
  clear hw1 hk1 hp
  refine (f24_any w1).mono ?_
  rintro e w3 ⟨rfl, hw3⟩
  have hk3 : Kp [] w1 w3 := by rw [hw3]; exact (Kp.refl _ _).alloc _
  have hq3 : w3.heap[w1.heap.size]? = some (.cells #[.slice none 0 0] 26) := by rw [hw3]; exact heap_alloc_same _ _
  have H3 := Hid.mk (And.intro (H1.out.trans hk3) hq3)
  clear hw3 hk3 hq3
  go_wp2_with (at_builtin; refine wpList_appOpt rfl _ _ rfl w.heap.size none 0 0 [] rfl ⟨rfl, .inl ⟨rfl, rfl⟩⟩ w3.heap.size 1 (.func (.func 37) #[] #[.pointer (some ⟨w1.heap.size, 0, none⟩)]) rfl rfl (by simp) (by omega) (by have := H3.out.1.size; simp; omega) ?_; intro a4 c4 w4 hown4 hgr4; have Hw4 := Hid.mk (And.intro hgr4 hown4); clear hgr4 hown4)
  go_ret
  refine ⟨a4, c4, rfl, (H3.out.1.alloc _).grown Hw4.out.1 (fun k hk => by cases hk), w1.heap.size, Hw4.out.2, ?_⟩
  exact app_at Hw4.out.1 H3.out.2 (by intro e; cases e)

set_option maxRecDepth 100000 in
set_option maxHeartbeats 2000000 in
theorem apply_one (d go capo q : Nat) (w : World) (ho0 : w.cell? ⟨go, 0, none⟩ = some (.func (.func 37) #[] #[.pointer (some ⟨q, 0, none⟩)])) (hq : w.cell? ⟨q, 0, none⟩ = some (.slice none 0 0)) :
    Calls Tryz.prog 17 #[.pointer (some ⟨d, 0, none⟩), .slice (some ⟨go, 0, none⟩) 1 capo] w fun e w' => e = .returned (.tuple #[]) ∧ w = w' := by
  have n37 := ne37_run q
  go_enter Tryz.func17, Tryz.ntmps17
  go_wp2_with fail
  go_loopg [8] 1 (fun f vi wr => ((f = 1 ∧ vi = .int .i64 0) ∨ (f = 0 ∧ vi = .int .i64 1)) ∧ w = wr)
  case atStart => exact ⟨.inl ⟨rfl, rfl⟩, rfl⟩
  case round =>
    obtain ⟨⟨rfl, rfl⟩ | ⟨rfl, rfl⟩, rfl⟩ := hrel
    · go_wp2_with fail
      refine (opt37_any d q w hq).mono ?_
      rintro e w' ⟨rfl, rfl⟩
      go_wp2_with fail
      go_roundg 0
      case measure => omega
      case rel => exact ⟨.inr ⟨rfl, rfl⟩, rfl⟩
    · go_wp2_with fail
      exact bodyPost_end (results_none rfl _ _ _) rfl ⟨rfl, rfl⟩

set_option maxRecDepth 100000 in
set_option maxHeartbeats 2000000 in
theorem compare_add (a b : J) (rest : List Nat) (y x : Value) (ih : DiffAdd a b rest y x) (d B B' g cap : Nat) (C : Array Value) (v u : Value) (cs : List Nat) (w : World) (hv : Rep B w a v) (hu : Rep B' w b u) (hdB : d < B) (hdB' : d < B') (hd : Dif w d C) (hC : Opt C false)
    (hby : Byt w g cs) (h12 : C[12]? = some (.slice (some ⟨g, 0, none⟩) cs.length cap)) (h13 : C[13]? = some (.slice none 0 0)) (h14 : C[14]? = some (.string .empty)) (h15 : C[15]? = some (.int .i64 0)) (h16 : C[16]? = some (.string .empty)) (h17 : C[17]? = some (.int .i64 0)) (h18 : C[18]? = some (.int .i64 0)) (hh : hgt a < 400) (hcs : cs.length < 1000000) :
    Calls Tryz.prog 31 #[.pointer (some ⟨d, 0, none⟩), v, u] w fun e w' => e = .returned (.tuple #[]) ∧ Added w' w.heap.size d C rest y x ∧ Kp [d] w w' := by
  have c5 := (hd.cell 5 (by decide)).trans hC.c5
  have c6 := (hd.cell 6 (by decide)).trans hC.c6
  have c12 := (hd.cell 12 (by decide)).trans h12
  have c13 := (hd.cell 13 (by decide)).trans h13
  have c14 := (hd.cell 14 (by decide)).trans h14
  have c15 := (hd.cell 15 (by decide)).trans h15
  have c16 := (hd.cell 16 (by decide)).trans h16
  have c17 := (hd.cell 17 (by decide)).trans h17
  have c18 := (hd.cell 18 (by decide)).trans h18
  have H := Hid.mk (And.intro hv (And.intro hu (And.intro hd (And.intro hC hby))))
  have Hb := Hid.mk (And.intro hdB (And.intro hdB' hcs))
  clear hv hu hdB hdB' hd hC hby h12 h13 h14 h15 h16 h17 h18 hcs
  go_enter Tryz.func31, Tryz.ntmps31
  go_wp2_with fail
  go_still_tail 12, (by kernel_rfl)
  still_call (still_ok (b2s_any g cap cs w.drew H.out.2.2.2.2))
  refine wpStill_nil ?_
  change wpList _ _ _ _ _ w.drew
  clear c5 c6 c12 c13 c14 c15 c16 c17 c18
  go_wp2_with fail
  refine (ih d B B' C w w.drew v u none 0 0 [] .empty 0 .empty 0 0 (txt cs) H.out.1 H.out.2.1 (Kp.refl _ _).drew H.out.2.2.1.lt Hb.out.1 Hb.out.2.1 H.out.2.2.1 H.out.2.2.2.1 ⟨rfl, .inl ⟨rfl, rfl⟩⟩ (by omega) (by rw [txt_size]; exact Hb.out.2.2)).mono ?_
  rintro e w4 ⟨rfl, hd4, hk4, _⟩
  have H4 := Hid.mk (And.intro hd4 hk4)
  clear hd4 hk4
  go_wp2_with fail
  exact bodyPost_end (results_none rfl _ _ _) rfl ⟨rfl, H4.out.1, (Kp.refl [d] w).drew.trans (H4.out.2.mono (by simp [rowOf]))⟩

set_option maxRecDepth 100000 in
set_option maxHeartbeats 2000000 in
theorem compareJSON_add (a b : J) (rest : List Nat) (y x : Value) (ih : DiffAdd a b rest y x) (hva : JV a) (hvb : JV b) (hha : hgt a < 400) (hhb : hgt b < 400) (d g1 g2 cap1 cap2 : Nat) (C : Array Value) (w : World) (hd : Dif w d C) (hC : Opt C false) (hZ : Zro C)
    (hl1 : (enc a).length < 1000000) (hl2 : (enc b).length < 1000000) (hb1 : Byt w g1 (enc a)) (hb2 : Byt w g2 (enc b)) (hg1 : g1 < w.heap.size) (hg2 : g2 < w.heap.size) (hgd : g2 ≠ d) :
    Calls Tryz.prog 18 #[.pointer (some ⟨d, 0, none⟩), .slice (some ⟨g1, 0, none⟩) (enc a).length cap1, .slice (some ⟨g2, 0, none⟩) (enc b).length cap2, .nilFunc] w fun e w' =>
      ∃ g cap, e = .returned (.tuple #[.slice (some ⟨g, 0, none⟩) 1 cap, .nilIface]) ∧ OpAt w' g rest y x ∧ Kp [d] w w' := by
  have H := Hid.mk (And.intro hd (And.intro hC (And.intro hZ (And.intro hb1 hb2))))
  clear hd hC hZ hb1 hb2
  have hnf := nilf_run
  go_enter Tryz.func18, Tryz.ntmps18
  go_upto_region 4 with (fail)
  clear hnf
  obtain ⟨p1, hp1⟩ : ∃ p1, p1 = w.heap.size := ⟨_, rfl⟩
  obtain ⟨p2, hp2⟩ : ∃ p2, p2 = w.heap.size + 1 := ⟨_, rfl⟩
  obtain ⟨w1, hw1⟩ : ∃ w1, w1 = (w.alloc (.cells #[.nilIface] 20)).alloc (.cells #[.nilIface] 20) := ⟨_, rfl⟩
  rw [← hw1, ← hp2, ← hp1]
  have hk1 : Kp [] w w1 := by rw [hw1]; exact ((Kp.refl _ _).alloc _).alloc _
  have hc1 : w1.heap[p1]? = some (.cells #[.nilIface] 20) := by rw [hw1, hp1]; exact (heap_alloc_lt (by simp) _).trans (heap_alloc_same _ _)
  have hc2 : w1.heap[p2]? = some (.cells #[.nilIface] 20) := by
    rw [hw1, hp2]
    have := heap_alloc_same (w.alloc (.cells #[.nilIface] 20)) (.cells #[.nilIface] 20)
    simpa using this
  have H1 := Hid.mk (And.intro hk1 (And.intro hc1 (And.intro hc2 (And.intro hp1 hp2))))
  clear hw1 hk1 hc1 hc2 hp1 hp2
  go_wp2_with fail
  have hdl := H.out.1.lt
  have Hl := Hid.mk (And.intro hdl (And.intro hg1 (And.intro hg2 hgd)))
  clear hdl hg1 hg2 hgd
  refine (unm_any a g1 p1 cap1 .nilIface w1 hva (by omega) hl1 (H.out.2.2.2.1.kept H1.out.1 (by simp)) H1.out.2.1).mono ?_
  rintro e w2 ⟨rfl, v, hp1, hrep, hk2⟩
  have hp2 := hk2.at H1.out.2.2.1 (by have := H1.out.2.2.2; simp; omega)
  have hkw2 : Kp [] w w2 := H1.out.1.trans' hk2 (fun j hj hjl => by have := H1.out.2.2.2; simp at hj; omega)
  have H2 := Hid.mk (And.intro hp1 (And.intro hrep (And.intro hk2 (And.intro hp2 hkw2))))
  clear hp1 hrep hk2 hp2 hkw2
  go_wp2_with fail
  refine (unm_any b g2 p2 cap2 .nilIface w2 hvb (by omega) hl2 (H.out.2.2.2.2.kept H2.out.2.2.2.2 (by simp)) H2.out.2.2.2.1).mono ?_
  rintro e w3 ⟨rfl, u, hp2, hrep, hk3⟩
  have hp1 := hk3.at H2.out.1 (by have := H1.out.2.2.2; simp; omega)
  have hkw3 : Kp [] w w3 := H2.out.2.2.2.2.trans' hk3 (fun j hj hjl => by have := H1.out.2.2.2; simp at hj; omega)
  have hd3 := H.out.1.kept hkw3 (by simp)
  have hr1 : Rep w.heap.size w3 a v := (Rep.kept (S := [p2]) hk3 (fun j hj => by have := lt_of_heap H1.out.2.2.1; simp at hj; omega) H2.out.2.1).mono H1.out.1.size
  have hc12 := hd3.cell 12 (by decide)
  have hff : w3.frozen? ⟨d, 12, none⟩ = false := by obtain ⟨s, hs⟩ := hd3; exact blk_frozen hs 12
  have hcp1 := blk_cell hp1
  have hcp2 := blk_cell hp2
  have h12 : 12 < C.size := by have := H.out.2.1.size; omega
  obtain ⟨v12, hv12⟩ : ∃ x, C[12]? = some x := ⟨_, Array.getElem?_eq_getElem h12⟩
  rw [hv12] at hc12
  have hdp1 : d ≠ p1 := by have := H1.out.2.2.2; have := Hl.out.1; omega
  have hdp2 : d ≠ p2 := by have := H1.out.2.2.2; have := Hl.out.1; omega
  have H3 := Hid.mk (And.intro hrep (And.intro hkw3 (And.intro hd3 (And.intro hr1 h12))))
  clear hp2 hp1 hrep hk3 hkw3 hd3 hr1 h12 hv12
  obtain ⟨ty, x', rfl⟩ := H3.out.1.iface
  obtain ⟨ty1, x1, rfl⟩ := H3.out.2.2.2.1.iface
  go_wp2_with fail
  have hk4 : Kp [d] w3 (w3.setCell ⟨d, 12, none⟩ (.slice (some ⟨g2, 0, none⟩) (enc b).length cap2)) := (Kp.refl _ _).setCell _ (.inl (by simp))
  have hd4 := H3.out.2.2.1.set12 (.slice (some ⟨g2, 0, none⟩) (enc b).length cap2)
  have hs := H.out.2.1.size
  have hZ := H.out.2.2.1
  have hdw2 : d < w2.heap.size := by have := H2.out.2.2.2.2.size; have := Hl.out.1; omega
  refine (compare_add a b rest y x ih d w.heap.size w2.heap.size g2 cap2 (C.setIfInBounds 12 (.slice (some ⟨g2, 0, none⟩) (enc b).length cap2)) _ _ (enc b) _ (H3.out.2.2.2.1.kept hk4 (by have := Hl.out.1; simpa using this)) (H3.out.1.kept hk4 (by simpa using hdw2)) Hl.out.1 hdw2 hd4 (H.out.2.1.set12 _)
    (((H.out.2.2.2.2.kept H3.out.2.1 (by simp))).kept hk4 (by simpa using Hl.out.2.2.2)) (by simp [hs])
    (by rw [Array.getElem?_setIfInBounds_ne (by decide)]; exact hZ.c13) (by rw [Array.getElem?_setIfInBounds_ne (by decide)]; exact hZ.c14) (by rw [Array.getElem?_setIfInBounds_ne (by decide)]; exact hZ.c15)
    (by rw [Array.getElem?_setIfInBounds_ne (by decide)]; exact hZ.c16) (by rw [Array.getElem?_setIfInBounds_ne (by decide)]; exact hZ.c17) (by rw [Array.getElem?_setIfInBounds_ne (by decide)]; exact hZ.c18) hha hl2).mono ?_
  rintro e w5 ⟨rfl, ⟨g, cap, hg, hd5, hop⟩, hk5⟩
  have hc10 : w5.cell? ⟨d, 10, none⟩ = some (.slice (some ⟨g, 0, none⟩) 1 cap) := (hd5.cell 10 (by decide)).trans (by simp [hs])
  have H5 := Hid.mk (And.intro hop ((H3.out.2.1.mono (T := [d]) (by simp)).trans (hk4.trans hk5)))
  clear hk4 hd4 hs hZ hdw2 hd5 hk5 hcp1 hcp2 hc12 hop hg
  go_wp2_with fail
  go_ret2
  exact ⟨g, cap, rfl, H5.out⟩

set_option maxRecDepth 100000 in
set_option maxHeartbeats 2000000 in
theorem top_add (a b : J) (rest : List Nat) (y x : Value) (ih : DiffAdd a b rest y x) (hva : JV a) (hvb : JV b) (hha : hgt a < 400) (hhb : hgt b < 400) (g1 g2 cap1 cap2 go capo q : Nat) (w : World)
    (hl1 : (enc a).length < 1000000) (hl2 : (enc b).length < 1000000) (hb1 : Byt w g1 (enc a)) (hb2 : Byt w g2 (enc b)) (hg1 : g1 < w.heap.size) (hg2 : g2 < w.heap.size)
    (ho0 : w.cell? ⟨go, 0, none⟩ = some (.func (.func 37) #[] #[.pointer (some ⟨q, 0, none⟩)])) (hq : w.cell? ⟨q, 0, none⟩ = some (.slice none 0 0)) :
    Calls Tryz.prog 12 #[.slice (some ⟨g1, 0, none⟩) (enc a).length cap1, .slice (some ⟨g2, 0, none⟩) (enc b).length cap2, .slice (some ⟨go, 0, none⟩) 1 capo] w fun e w' =>
      ∃ g cap, e = .returned (.tuple #[.slice (some ⟨g, 0, none⟩) 1 cap, .nilIface]) ∧ OpAt w' g rest y x ∧ Kp [] w w' := by
  have H := Hid.mk (And.intro hb1 (And.intro hb2 (And.intro ho0 hq)))
  clear hb1 hb2 ho0 hq
  go_enter Tryz.func12, Tryz.ntmps12
  go_wp2_with fail
  obtain ⟨d, hdd⟩ : ∃ d, d = w.heap.size := ⟨_, rfl⟩
  obtain ⟨w1, hw1⟩ : ∃ w1, w1 = w.alloc (.cells (C0 false) 71) := ⟨_, rfl⟩
  have hd1 : w1.heap[d]? = some (.cells (C0 false) 71) := by rw [hw1, hdd]; exact heap_alloc_same _ _
  have hk1 : Kp [] w w1 := by rw [hw1]; exact (Kp.refl _ _).alloc _
  rw [← hdd]
  have hcall := apply_one d go capo q w1 (hk1.cell H.out.2.2.1 (by simp)) (hk1.cell H.out.2.2.2 (by simp))
  have Hd := Hid.mk (And.intro hdd (And.intro hk1 hd1))
  rw [hw1] at hcall
  refine hcall.mono ?_
  rintro e w2 ⟨rfl, h2⟩
  rw [← hw1] at h2
  subst h2
  have hc3 : w1.cell? ⟨d, 3, none⟩ = some .nilFunc := blk_cell hd1 3
  clear hd1 hk1 hcall hdd hw1
  go_wp2_with fail
  refine (compareJSON_add a b rest y x ih hva hvb hha hhb d g1 g2 cap1 cap2 (C0 false) w1 ⟨0, Hd.out.2.2⟩ (opt0 false) (zro0 false) hl1 hl2 (H.out.1.kept Hd.out.2.1 (by simp)) (H.out.2.1.kept Hd.out.2.1 (by simp)) (Nat.lt_of_lt_of_le hg1 Hd.out.2.1.size) (Nat.lt_of_lt_of_le hg2 Hd.out.2.1.size) (by have := Hd.out.1; omega)).mono ?_
  rintro e w3 ⟨g, cap, rfl, hop, hk3⟩
  have H3 := Hid.mk (And.intro hop (Hd.out.2.1.trans' hk3 (fun j hj hjl => by have := Hd.out.1; simp at hj; omega)))
  clear hop hk3
  go_wp2_with fail
  go_ret2
  exact ⟨g, cap, rfl, H3.out⟩
end Go.Proofs.YtpigmadopflfkaaGreatDoor
