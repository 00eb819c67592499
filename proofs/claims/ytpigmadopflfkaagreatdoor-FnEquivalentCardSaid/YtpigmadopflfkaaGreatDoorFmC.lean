/- lightstrconv.short and text, as FormatFloat of 3 meets them. -/
import Derived.Test.YtpigmadopflfkaaGreatDoorFmB
namespace Go.Proofs.YtpigmadopflfkaaGreatDoor
open Go.RowKit Go.BigFrame
def hi0 : List Nat := [1, 3, 5, 1, 0, 7, 9, 8, 8, 8, 2, 1, 1, 1, 4, 8, 9]
def lo0 : List Nat := [1, 3, 5, 1, 0, 7, 9, 8, 8, 8, 2, 1, 1, 1, 4, 8, 7]
def mi0 : List Nat := [6, 7, 5, 5, 3, 9, 9, 4, 4, 1, 0, 5, 5, 7, 4, 4]
theorem hi_ud : udF 40 13510798882111489 [] = some hi0 := by decide +kernel
theorem lo_ud : udF 40 13510798882111487 [] = some lo0 := by decide +kernel
theorem mi_ud : udF 40 6755399441055744 [] = some mi0 := by decide +kernel
def hi1 : List Nat := (halfF 52 hi0 17).elim [] (·.1)
def lo1 : List Nat := (halfF 52 lo0 17).elim [] (·.1)
theorem hi_half : halfF 52 hi0 17 = some (hi1, 1) := by decide +kernel
theorem lo_half : halfF 52 lo0 17 = some (lo1, 1) := by decide +kernel
theorem mi_half : halfF 51 mi0 16 = some ([3], 1) := by decide +kernel
theorem hi_len : hi1.length = 53 := by decide +kernel
theorem lo_len : lo1.length = 53 := by decide +kernel
theorem hi_trim : trimZ hi0 = hi0 := trimZ_no (by decide)
theorem lo_trim : trimZ lo0 = lo0 := trimZ_no (by decide)
theorem mi_trim : trimZ mi0 = mi0 := trimZ_no (by decide)
/-- newDecimal and the shift to the right at once. -/
theorem NewQ.dec {B b : Nat} {cs : List Nat} {w : World} (h : NewQ B b cs w) (ht : trimZ cs = cs) (hne : cs ≠ []) : Dec B w b cs (cs.length : Nat) := by
  unfold NewQ at h
  rwa [ht, if_neg hne] at h
set_option maxRecDepth 100000 in
set_option maxHeartbeats 2000000 in
theorem short3 (a : Nat) (B : Nat) (w : World) (ha : Dec B w a [3] 1) :
    Calls Tryz.prog 127 #[.pointer (some ⟨a, 0, none⟩), .int .u64 6755399441055744, .int .i64 1, .agg #[.int .i64 52, .int .i64 11, .int .i64 (-1023)]] w fun e w' => e = .returned (.pointer (some ⟨a, 0, none⟩)) ∧ Kp [] w w' := by
  have H := Hid.mk ha
  clear ha
  go_enter Tryz.func127, Tryz.ntmps127
  go_wp2_with fail
  obtain ⟨p, hp⟩ : ∃ p, p = w.heap.size := ⟨_, rfl⟩
  obtain ⟨w1, hw1⟩ : ∃ w1, w1 = w.alloc (.cells #[.int .i64 52, .int .i64 11, .int .i64 (-1023)] 188) := ⟨_, rfl⟩
  rw [← hw1, ← hp]
  have hp1 : w1.heap[p]? = some (.cells #[.int .i64 52, .int .i64 11, .int .i64 (-1023)] 188) := by rw [hw1, hp]; exact heap_alloc_same _ _
  have hk1 : Kp [] w w1 := by rw [hw1]; exact (Kp.refl _ _).alloc _
  have H1 := Hid.mk (And.intro hp1 hk1)
  clear hw1 hp1 hk1 hp
  refine (newDecimal_any 13510798882111489 hi0 w1 (by omega) hi_ud (by decide)).mono ?_
  rintro e w2 ⟨bh, rfl, hbh, hq, hk2⟩
  have hdh := hq.dec hi_trim (by decide)
  have hp2 := hk2.at H1.out.1 (by simp)
  have hcp := blk_cell hp2
  have hpl := lt_of_heap H1.out.1
  have H2 := Hid.mk (And.intro hdh (And.intro hp2 (And.intro (H1.out.2.trans hk2) (And.intro (show w.heap.size ≤ bh by have := H1.out.2.size; omega) (And.intro (show bh ≠ p by omega) hbh)))))
  clear hdh hp2 hk2 hq hbh hpl
  go_wp2_with fail
  refine (shift_neg (w1.heap.size + 1) bh hi0 52 17 w2 (by obtain ⟨_, _, hb, _⟩ := H2.out.1; have := lt_of_heap hb; have := H2.out.2.2.2.2.2; omega) (by omega) (by omega) (by decide) (by omega) (by omega) H2.out.1 hi1 1 hi_half).mono ?_
  rintro e w3 ⟨rfl, hdh, hk3⟩
  have hk03 : Kp [] w w3 := H2.out.2.2.1.trans' hk3 (fun j hj hjl => by have := H2.out.2.2.2; simp at hj; omega)
  have H3 := Hid.mk (And.intro hdh (And.intro (hk3.at H2.out.2.1 (by simpa using fun e => H2.out.2.2.2.2.1 e.symm)) hk03))
  clear hdh hk3 hk03 hcp
  go_wp2_with fail
  refine (newDecimal_any 13510798882111487 lo0 w3 (by omega) lo_ud (by decide)).mono ?_
  rintro e w4 ⟨bl, rfl, hbl, hq, hk4⟩
  have hdl := hq.dec lo_trim (by decide)
  have hp4 := hk4.at H3.out.2.1 (by simp)
  have hcp := blk_cell hp4
  have hplb : p ≠ bl := by have := lt_of_heap H3.out.2.1; omega
  have hbhl : bh ≠ bl := by obtain ⟨_, _, hb, _⟩ := H3.out.1; have := lt_of_heap hb; omega
  have H4 := Hid.mk (And.intro hdl (And.intro hp4 (And.intro (H3.out.2.2.trans hk4) (And.intro (H3.out.1.kept hk4 (by simp) (by simp)) (And.intro (show w.heap.size ≤ bl by have := H3.out.2.2.size; omega) (And.intro hplb (And.intro hbhl hbl)))))))
  clear hdl hp4 hk4 hq hbl hplb hbhl
  go_wp2_with fail
  refine (shift_neg (w3.heap.size + 1) bl lo0 52 17 w4 (by obtain ⟨_, _, hb, _⟩ := H4.out.1; have := lt_of_heap hb; have := H4.out.2.2.2.2.2.2.2; omega) (by omega) (by omega) (by decide) (by omega) (by omega) H4.out.1 lo1 1 lo_half).mono ?_
  rintro e w5 ⟨rfl, hdl, hk5⟩
  have hk05 : Kp [] w w5 := H4.out.2.2.1.trans' hk5 (fun j hj hjl => by have := H4.out.2.2.2.2.1; simp at hj; omega)
  have hp5 := hk5.at H4.out.2.1 (by simpa using H4.out.2.2.2.2.2.1)
  have hdh5 := H4.out.2.2.2.1.kept2 hk5 (by simpa using H4.out.2.2.2.2.2.2.1) (by
    intro i hi cur e
    simp at hi
    subst hi
    obtain ⟨_, _, hb, _⟩ := H4.out.1
    rw [hb] at e
    cases e)
  clear hcp
  have hcp := blk_cell hp5
  have H5 := Hid.mk (And.intro hdl (And.intro hdh5 hk05))
  clear hdl hk5 hk05 hp5 hdh5
  go_wp2_with fail
  clear hcp
  go_loopg [12] 1 (fun f vi wr => ((f = 1 ∧ vi = .int .i64 0 ∧ w5 = wr) ∨ (f = 0 ∧ vi = .int .i64 1 ∧ Kp [] w wr)))
  case atStart => exact .inl ⟨rfl, rfl, rfl⟩
  case round =>
    obtain ⟨rfl, rfl, rfl⟩ | ⟨rfl, rfl, hk⟩ := hrel
    · have hda := H.out.kept H5.out.2.2 (by simp) (by simp)
      obtain ⟨a1, c1, hca, _, _, _, _, _⟩ := hda.opened
      have Ha := Hid.mk hda
      simp only [List.length_cons, List.length_nil] at hca
      clear hda
      go_wp2_with fail
      refine (down_zero B a [3] 1 w5 Ha.out (by simp) (by omega)).mono ?_
      rintro e w6 ⟨b1, rfl, hb1, hd6, hk6⟩
      have H6 := Hid.mk (And.intro hd6 (And.intro (Ha.out.kept hk6 (by simp) (by simp)) (And.intro (H5.out.1.kept hk6 (by simp) (by simp)) (And.intro (H5.out.2.1.kept hk6 (by simp) (by simp)) (H5.out.2.2.trans hk6)))))
      clear hd6 hk6 hb1
      go_wp2_with fail
      refine (up_zero B a [3] 1 w6 H6.out.2.1 (by simp) (by omega)).mono ?_
      rintro e w7 ⟨b2, rfl, hb2, hd7, hk7⟩
      have H7 := Hid.mk (And.intro hd7 (And.intro (H6.out.1.kept hk7 (by simp) (by simp)) (And.intro (H6.out.2.2.1.kept hk7 (by simp) (by simp)) (And.intro (H6.out.2.2.2.1.kept hk7 (by simp) (by simp)) (H6.out.2.2.2.2.trans hk7)))))
      clear hd7 hk7 hb2 hca
      go_wp2_with fail
      refine (cmp_nil _ _ bl b1 lo1 1 0 w7 H7.out.2.2.1 H7.out.2.1 (by rw [lo_len]; omega)).mono ?_
      rintro e w8 ⟨rfl, k8, hw8⟩
      rw [lo_len]
      have H8 := Hid.mk (And.intro (show Dec w6.heap.size w8 b2 [1] (1 + 1) by rw [hw8]; exact H7.out.1.drewN k8) (And.intro (show Dec (w1.heap.size + 1) w8 bh hi1 1 by rw [hw8]; exact H7.out.2.2.2.1.drewN k8) (show Kp [] w w8 by rw [hw8]; exact H7.out.2.2.2.2.drewN k8)))
      clear hw8
      go_wp2_with fail
      refine (cmp_pt _ _ b2 bh [1] hi1 (1 + 1) 1 w8 H8.out.1 H8.out.2.1 (by simp) (by intro e; have := hi_len; rw [e] at this; cases this) (by omega) (by omega) (by omega)).mono ?_
      rintro e w9 ⟨rfl, k9, hw9⟩
      have H9 := Hid.mk (show Kp [] w w9 by rw [hw9]; exact H8.out.2.2.drewN k9)
      clear hw9
      rw [show (1 + 1 - 1 : Int) = 1 by omega]
      go_wp2_with fail
      go_roundg 0
      case measure => omega
      case rel => exact .inr ⟨rfl, rfl, H9.out⟩
    · have hda := H.out.kept hk (by simp) (by simp)
      obtain ⟨a1, c1, hca, _, _, _, _, _⟩ := hda.opened
      simp only [List.length_cons, List.length_nil] at hca
      have Hk := Hid.mk hk
      clear hda hk
      go_wp2_with fail
      go_ret
      exact ⟨rfl, Hk.out⟩
end Go.Proofs.YtpigmadopflfkaaGreatDoor
