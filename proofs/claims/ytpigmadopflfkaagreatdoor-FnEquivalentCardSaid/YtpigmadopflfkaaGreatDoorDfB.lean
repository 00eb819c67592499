/- diff of two lists that differ in their second number, and of two objects of one name: the patch gets one operation. -/
import Derived.Test.YtpigmadopflfkaaGreatDoorDfA
namespace Go.Proofs.YtpigmadopflfkaaGreatDoor
open Go.RowKit Go.BigFrame

set_option maxRecDepth 100000 in
set_option maxHeartbeats 4000000 in
theorem arrays_add (x y z : Num) (hx : feq (fb x) (fb x) = true) (hyz : feq (fb y) (fb z) = false) (d B B' cap cap2 n0 cap0 : Nat) (a a2 a0 : Option Addr) (cs0 : List Nat) (key : ByteArray) (idx : Int) (pk : ByteArray) (pi sep : Int) (t : ByteArray) (C : Array Value) (w0 w : World)
    (ho : w0.ownsRow B 20 1 (.slice a 2 cap) 2 [fv x, fv y]) (ho2 : w0.ownsRow B' 20 1 (.slice a2 2 cap2) 2 [fv x, fv z]) (hk0 : Kp [d] w0 w) (hdl : d < w0.heap.size) (hdB : d < B) (hdB' : d < B') (hd : Dif w d C) (hC : Opt C false) (hb : Buf w0.heap.size w a0 n0 cap0 cs0) (hn : n0 + 2 < 1000) (ht : t.size < 1000000) :
    Calls Tryz.prog 78 #[.pointer (some ⟨d, 0, none⟩), .agg #[.slice a0 n0 cap0, .string key, .int .i64 idx, .string pk, .int .i64 pi, .int .i64 sep], .slice a 2 cap, .slice a2 2 cap2, .string t] w fun e w' => e = .returned (.tuple #[]) ∧
      Added w' w.heap.size d C (cs0 ++ [47, 49]) (fv z) (fv y) ∧ Kp (d :: rowOf a0) w w' ∧ Buf w0.heap.size w' a0 n0 cap0 cs0 := by
  obtain ⟨gs, rfl, hgs, hgl, hcs⟩ := own_cells ho (by omega)
  obtain ⟨gt, rfl, hgt, hgl2, hct⟩ := own_cells ho2 (by omega)
  have hda0 : d ∉ rowOf a0 := fun h => by have := (rowOf_mem hb d h).1; omega
  have H := Hid.mk (And.intro hd (And.intro hC (And.intro hb (And.intro hk0 hda0))))
  have HB := Hid.mk (And.intro hdB (And.intro hdB' (And.intro hn (And.intro hdl (And.intro hgs (And.intro hgl (And.intro hgt hgl2)))))))
  have Hc : Hid (∀ W, Kp [d] w0 W → W.cell? ⟨gs, 0, none⟩ = some (fv x) ∧ W.cell? ⟨gs, 1, none⟩ = some (fv y) ∧ W.cell? ⟨gt, 0, none⟩ = some (fv x) ∧ W.cell? ⟨gt, 1, none⟩ = some (fv z)) := Hid.mk (fun W hW =>
    ⟨hW.cell (hcs 0 (by omega)) (by simp; omega), hW.cell (hcs 1 (by omega)) (by simp; omega), hW.cell (hct 0 (by omega)) (by simp; omega), hW.cell (hct 1 (by omega)) (by simp; omega)⟩)
  have Hs := Hid.mk (And.intro hx (And.intro hyz ht))
  clear hd hC hb hk0 hdB hdB' hn hgs hgl hgt hgl2 hcs hct ho ho2 hx hyz hdl hda0 ht
  go_enter Tryz.func78, Tryz.ntmps78
  go_wp2_with fail
  go_step3
  go_wp2_with fail
  obtain ⟨p, hp⟩ : ∃ p, p = w.heap.size := ⟨_, rfl⟩
  have hk0 : Kp [] w (w.alloc (.cells #[.slice a0 n0 cap0, .string key, .int .i64 idx, .string pk, .int .i64 pi, .int .i64 sep] 64)) := (Kp.refl _ _).alloc _
  have hp0 : Ptr (w.alloc (.cells #[.slice a0 n0 cap0, .string key, .int .i64 idx, .string pk, .int .i64 pi, .int .i64 sep] 64)) p a0 n0 cap0 key idx pk pi sep := by rw [hp]; exact heap_alloc_same _ _
  rw [← hp]
  refine (snapshot_any p n0 cap0 a0 key idx pk pi sep _ hp0).mono ?_
  rintro e w1 ⟨rfl, hp1, hk1⟩
  have hk1' : Kp [] w w1 := hk0.trans' hk1 (fun j hj hjl => by simp at hj; omega)
  have hd1 := H.out.1.kept hk1' (by simp)
  have hc8 : w1.cell? ⟨d, 8, none⟩ = some (.bool false) := (hd1.cell 8 (by decide)).trans H.out.2.1.c8
  have Hp := Hid.mk hp
  have H1 := Hid.mk (And.intro hk1' (And.intro hd1 hp1))
  clear hk0 hp0 hk1 hk1' hd1 hp hp1
  go_wp2_with fail
  have hpa0 : p ∉ rowOf a0 := fun h => by have := (rowOf_mem H.out.2.2.1 p h).2; have := Hp.out; omega
  have hpd : p ≠ d := by have := Hp.out; have := H.out.1.lt; omega
  have hb1 : Buf w0.heap.size w1 a0 n0 cap0 cs0 := H1.out.1.owns H.out.2.2.1 (by simp)
  have HP := Hid.mk (And.intro hpa0 (And.intro hpd hb1))
  clear hpa0 hpd hb1 hc8
  go_step3
  go_wp2_with fail
  go_loopg [16] 2 (fun f vi wr => ∃ (a1 : Option Addr) (cap1 : Nat) (keyx : ByteArray) (idxx : Int), Ptr wr p a1 n0 cap1 keyx idxx key idx n0 ∧ Buf w0.heap.size wr a1 n0 cap1 cs0 ∧ p ∉ rowOf a1 ∧ Elder w0.heap.size wr a0 n0 cap0 cs0 a1 n0 cap1 cs0 ∧
    Kp (d :: rowOf a0) w wr ∧ (∀ g ∈ rowOf a1, g ∈ rowOf a0 ∨ w.heap.size ≤ g) ∧ ((f = 2 ∧ vi = .int .i64 0 ∧ Dif wr d C) ∨ (f = 1 ∧ vi = .int .i64 1 ∧ Dif wr d C) ∨ (f = 0 ∧ vi = .int .i64 2 ∧ Added wr w.heap.size d C (cs0 ++ [47, 49]) (fv z) (fv y))))
  case atStart => exact ⟨a0, cap0, key, idx, H1.out.2.2, HP.out.2.2, HP.out.1, Elder.refl HP.out.2.2, H1.out.1.mono (by simp), fun g hg => .inl hg, .inl ⟨rfl, rfl, H1.out.2.1⟩⟩
  case round =>
    obtain ⟨a1, cap1, keyx, idxx, hpr, hbf, hpa1, held, hkp, hrow, hst⟩ := hrel
    have H13 := Hid.mk (And.intro hpr (And.intro hbf (And.intro hpa1 (And.intro held (And.intro hkp hrow)))))
    have hk0r : Kp [d] w0 wr := H.out.2.2.2.1.trans' hkp (fun j hj hjl => by
      simp only [List.mem_cons] at hj ⊢
      rcases hj with h1 | h1
      · exact .inl h1
      · have := (rowOf_mem H.out.2.2.1 j h1).1; omega)
    have hwr : w0.heap.size ≤ wr.heap.size := hk0r.size
    have hda1 : d ∉ rowOf a1 := fun h => by
      rcases hrow d h with h1 | h1
      · exact H.out.2.2.2.2 h1
      · have := H.out.1.lt; omega
    have H0 := Hid.mk (And.intro hk0r (And.intro hwr hda1))
    clear hpr hbf hpa1 held hkp hrow hk0r hwr hda1
    obtain ⟨rfl, rfl, hdif⟩ | ⟨rfl, rfl, hdif⟩ | ⟨rfl, rfl, hadd⟩ := hst
    · have Hd := Hid.mk hdif
      clear hdif
      go_wp2_with fail
      refine (appendIndex_any w0.heap.size p 0 n0 cap1 a1 cs0 keyx idxx key idx n0 wr (by omega) H13.out.1 H13.out.2.1 H13.out.2.2.1 H0.out.2.1 (by have := HB.out; omega)).mono ?_
      rintro e w2 ⟨rfl, a2, cap2', hp2, hy2⟩
      have hd2 : Dif w2 d C := Hd.out.kept hy2.2.2.1 (by simp; exact ⟨fun e => HP.out.2.1 e.symm, H0.out.2.2⟩)
      have hkw2 : Kp (d :: rowOf a0) w w2 := H13.out.2.2.2.2.1.trans' hy2.2.2.1 (fun j hj hjl => by
        simp only [List.mem_cons] at hj ⊢
        rcases hj with h1 | h1
        · have := Hp.out; omega
        · rcases H13.out.2.2.2.2.2 j h1 with h2 | h2
          · exact .inr h2
          · omega)
      have hk02 : Kp [d] w0 w2 := H.out.2.2.2.1.trans' hkw2 (fun j hj hjl => by
        simp only [List.mem_cons] at hj ⊢
        rcases hj with h1 | h1
        · exact .inl h1
        · have := (rowOf_mem H.out.2.2.1 j h1).1; omega)
      obtain ⟨q1, q2, q3, q4⟩ := Hc.out w2 hk02
      have hc6 := (hd2.cell 6 (by decide)).trans H.out.2.1.c6
      have hcp2 := blk_cell hp2
      have H14 := Hid.mk (And.intro hp2 (And.intro hy2 (And.intro hd2 (And.intro hkw2 hk02))))
      clear hp2 hy2 hd2 hkw2 hk02
      go_wp2_with fail
      go_still_tail 11, (by kernel_rfl)
      change wpList _ _ _ _ _ w2.drew
      clear hc6 hcp2 q1 q2 q3 q4
      go_wp2_with fail
      refine (diff_same (.num x) (.num x) trivial Hs.out.1 d B B' (n0 + 1 + 1) cap2' a2 .empty 0 key idx n0 t C _ _ false w2.drew H14.out.2.2.1 H.out.2.1 rfl rfl).mono ?_
      rintro e w3 ⟨rfl, hk3⟩
      have hk3' : Kp [] w2 w3 := (Kp.refl _ _).drew.trans hk3
      have hp3 := hk3'.at H14.out.1 (by simp)
      have hb3 := hk3'.owns H14.out.2.1.1 (by simp)
      have H15 := Hid.mk (And.intro hk3' (And.intro hp3 hb3))
      clear hk3 hk3' hp3 hb3
      go_wp2_with fail
      refine (rewind_any p (n0 + 1 + 1) cap2' n0 a2 .empty 0 key idx w3 H15.out.2.1 (by omega) (own_cap H15.out.2.2).1).mono ?_
      rintro e w4 ⟨rfl, hp4, hk4⟩
      have H16 := Hid.mk (And.intro hp4 hk4)
      clear hp4 hk4
      go_wp2_with fail
      go_roundg 1
      case measure => omega
      case rel =>
        have hn0 : cs0.length = n0 := by have := H.out.2.2.1.1; simpa using this
        have htk : (cs0 ++ [47] ++ [48 + 0]).take n0 = cs0 := by
          rw [List.append_assoc, List.take_append_of_le_length (by omega), List.take_of_length_le (by omega)]
        have hk24 : Kp [p] w2 w4 := (H15.out.1.mono (T := [p]) (by simp)).trans H16.out.2
        have hb4 := hk24.owns H14.out.2.1.1 (fun j hj e => by
          simp only [List.mem_singleton] at e
          subst e
          exact H14.out.2.1.2.1 (own_row hj))
        have hb5 := own_take hb4 (m := n0) (by omega)
        rw [← List.map_take, htk] at hb5
        have he2 := H14.out.2.1.2.2.2.2 a0 n0 cap0 cs0 HP.out.1 H13.out.2.2.2.1
        have he4 := he2.kept hk24 (fun g hg => by simp only [List.mem_singleton] at hg; subst hg; exact .inr (.inr (.inr HP.out.1)))
        have he5 := he4.cut (Nat.le_refl n0)
        rw [htk] at he5
        refine ⟨a2, cap2', key, idx, H16.out.1, hb5, H14.out.2.1.2.1, he5, ?_, ?_, .inr (.inl ⟨rfl, rfl, ?_⟩)⟩
        · exact H14.out.2.2.2.1.trans' hk24 (fun j hj hjl => by simp only [List.mem_singleton] at hj; have := Hp.out; omega)
        · intro g hg
          rcases H14.out.2.1.2.2.2.1 g hg with h1 | h1
          · exact H13.out.2.2.2.2.2 g h1
          · have := H13.out.2.2.2.2.1.size; exact .inr (by omega)
        · exact H14.out.2.2.1.kept hk24 (by simpa using fun e => HP.out.2.1 e.symm)
    · have Hd := Hid.mk hdif
      clear hdif
      go_wp2_with fail
      refine (appendIndex_any w0.heap.size p 1 n0 cap1 a1 cs0 keyx idxx key idx n0 wr (by omega) H13.out.1 H13.out.2.1 H13.out.2.2.1 H0.out.2.1 (by have := HB.out; omega)).mono ?_
      rintro e w2 ⟨rfl, a2, cap2', hp2, hy2⟩
      have hd2 : Dif w2 d C := Hd.out.kept hy2.2.2.1 (by simp; exact ⟨fun e => HP.out.2.1 e.symm, H0.out.2.2⟩)
      have hkw2 : Kp (d :: rowOf a0) w w2 := H13.out.2.2.2.2.1.trans' hy2.2.2.1 (fun j hj hjl => by
        simp only [List.mem_cons] at hj ⊢
        rcases hj with h1 | h1
        · have := Hp.out; omega
        · rcases H13.out.2.2.2.2.2 j h1 with h2 | h2
          · exact .inr h2
          · omega)
      have hk02 : Kp [d] w0 w2 := H.out.2.2.2.1.trans' hkw2 (fun j hj hjl => by
        simp only [List.mem_cons] at hj ⊢
        rcases hj with h1 | h1
        · exact .inl h1
        · have := (rowOf_mem H.out.2.2.1 j h1).1; omega)
      have hda2 : d ∉ rowOf a2 := fun h => by
        rcases hy2.2.2.2.1 d h with h1 | h1
        · exact H0.out.2.2 h1
        · have := H0.out.2.1; have := HB.out; omega
      obtain ⟨q1, q2, q3, q4⟩ := Hc.out w2 hk02
      have hc6 := (hd2.cell 6 (by decide)).trans H.out.2.1.c6
      have hcp2 := blk_cell hp2
      have H14 := Hid.mk (And.intro hp2 (And.intro hy2 (And.intro hd2 (And.intro hkw2 (And.intro hk02 hda2)))))
      clear hp2 hy2 hd2 hkw2 hk02 hda2
      go_wp2_with fail
      go_still_tail 11, (by kernel_rfl)
      change wpList _ _ _ _ _ w2.drew
      clear hc6 hcp2 q1 q2 q3 q4
      go_wp2_with fail
      refine (diffAdd_num y z Hs.out.2.1 d B B' C w0 w2.drew _ _ a2 (n0 + 1 + 1) cap2' (cs0 ++ [47] ++ [48 + 1]) .empty 1 key idx n0 t rfl rfl H14.out.2.2.2.2.1.drew HB.out.2.2.2.1 HB.out.1 HB.out.2.1 H14.out.2.2.1 H.out.2.1 H14.out.2.1.1 (by have := HB.out; simp [hgt]; omega) Hs.out.2.2).mono ?_
      rintro e w3 ⟨rfl, hadd, hk3, hb3⟩
      have hk3' : Kp (d :: rowOf a2) w2 w3 := (Kp.refl _ _).drew.trans hk3
      have hpR : p ∉ d :: rowOf a2 := by
        simp only [List.mem_cons, not_or]
        exact ⟨HP.out.2.1, H14.out.2.1.2.1⟩
      have hp3 := hk3'.at H14.out.1 hpR
      have H15 := Hid.mk (And.intro hk3' (And.intro hp3 (And.intro hb3 (And.intro hadd hpR))))
      clear hk3 hk3' hp3 hb3 hadd hpR
      go_wp2_with fail
      refine (rewind_any p (n0 + 1 + 1) cap2' n0 a2 .empty 1 key idx w3 H15.out.2.1 (by omega) (own_cap H15.out.2.2.1).1).mono ?_
      rintro e w4 ⟨rfl, hp4, hk4⟩
      have H16 := Hid.mk (And.intro hp4 hk4)
      clear hp4 hk4
      go_wp2_with fail
      go_roundg 0
      case measure => omega
      case rel =>
        have hn0 : cs0.length = n0 := by have := H.out.2.2.1.1; simpa using this
        have htk : (cs0 ++ [47] ++ [48 + 1]).take n0 = cs0 := by
          rw [List.append_assoc, List.take_append_of_le_length (by omega), List.take_of_length_le (by omega)]
        have hb4 := H16.out.2.owns H15.out.2.2.1 (fun j hj e => by
          simp only [List.mem_singleton] at e
          subst e
          exact H14.out.2.1.2.1 (own_row hj))
        have hb5 := own_take hb4 (m := n0) (by omega)
        rw [← List.map_take, htk] at hb5
        have he2 := H14.out.2.1.2.2.2.2 a0 n0 cap0 cs0 HP.out.1 H13.out.2.2.2.1
        have he3 := he2.kept H15.out.1 (fun g hg => by
          simp only [List.mem_cons] at hg
          rcases hg with h1 | h1
          · have := HB.out; exact .inr (.inl (by omega))
          · exact .inl h1)
        have he4 := he3.kept H16.out.2 (fun g hg => by simp only [List.mem_singleton] at hg; subst hg; exact .inr (.inr (.inr HP.out.1)))
        have he5 := he4.cut (Nat.le_refl n0)
        rw [htk] at he5
        have hra2 : ∀ g ∈ rowOf a2, g ∈ rowOf a0 ∨ w.heap.size ≤ g := fun g hg => by
          rcases H14.out.2.1.2.2.2.1 g hg with h1 | h1
          · exact H13.out.2.2.2.2.2 g h1
          · have := H13.out.2.2.2.2.1.size; exact .inr (by omega)
        have hk5 : Kp (d :: rowOf a0) w w3 := H14.out.2.2.2.1.trans' H15.out.1 (fun j hj hjl => by
          simp only [List.mem_cons] at hj ⊢
          rcases hj with h1 | h1
          · exact .inl h1
          · rcases hra2 j h1 with h2 | h2
            · exact .inr h2
            · omega)
        refine ⟨a2, cap2', key, idx, H16.out.1, hb5, H14.out.2.1.2.1, he5, ?_, hra2, .inr (.inr ⟨rfl, rfl, ?_⟩)⟩
        · exact hk5.trans' H16.out.2 (fun j hj hjl => by simp only [List.mem_singleton] at hj; have := Hp.out; omega)
        · have h9 := (H15.out.2.2.2.1.kept H16.out.2 (by simpa using fun e => HP.out.2.1 e.symm) (fun i hi cur e => by
            simp only [List.mem_singleton] at hi
            subst hi
            have h1 := H15.out.2.1
            rw [e] at h1
            cases h1)).mono (lo' := w.heap.size) (show w.heap.size ≤ w2.drew.heap.size from H14.out.2.2.2.1.size)
          simpa using h9
    · have Hd := Hid.mk hadd
      clear hadd
      go_wp2_with fail
      rw [Exit.noGoto_normal]
      exact bodyPost_end (results_none rfl _ _ _) rfl ⟨rfl, Hd.out, H13.out.2.2.2.2.1, H13.out.2.2.2.1.buf H13.out.2.1⟩
end Go.Proofs.YtpigmadopflfkaaGreatDoor
