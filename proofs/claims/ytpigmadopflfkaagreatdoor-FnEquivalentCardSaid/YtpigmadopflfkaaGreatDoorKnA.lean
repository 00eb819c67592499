/- impl.Diff without options where two documents differ in one number, which becomes 3; and the law's function known: true. Condition: the two package variables that strconv reads hold what start-up lays. -/
import Derived.Test.YtpigmadopflfkaaGreatDoorPlA
import Derived.Test.YtpigmadopflfkaaGreatDoorSpE
namespace Go.Proofs.YtpigmadopflfkaaGreatDoor
open Go.RowKit Go.BigFrame

set_option maxRecDepth 100000 in
set_option maxHeartbeats 2000000 in
theorem diff_add (a b : J) (path : List Nat) (tx : TypeId) (vx : Value) (ih : DiffAdd a b path (.iface 87 (.float .f64 4613937818241073152)) (.iface tx vx)) (hva : JV a) (hvb : JV b) (hha : hgt a < 400) (hhb : hgt b < 400) (hl1 : (enc a).length < 1000000) (hl2 : (enc b).length < 1000000) (w : World) :
    Calls Tryz.prog 8 #[.string (txt (enc a)), .string (txt (enc b)), .agg #[.bool false, .bool false, .bool false, .bool false, .bool false, .slice none 0 0]] w fun e w' => ∃ q c, e = .returned (.tuple #[.slice (some ⟨q, 0, none⟩) 1 c, .int .i64 0]) ∧ PlainAt w' q path ∧ Kp [] w w' := by
  go_enter_defers Tryz.func8, Tryz.ntmps8
  go_upto_region 2 with (fail)
  obtain ⟨p, hp⟩ : ∃ p, p = w.heap.size := ⟨_, rfl⟩
  obtain ⟨p1, hp1⟩ : ∃ p1, p1 = w.heap.size + 1 := ⟨_, rfl⟩
  obtain ⟨p2, hp2⟩ : ∃ p2, p2 = w.heap.size + 1 + 1 := ⟨_, rfl⟩
  obtain ⟨w1, hw1⟩ : ∃ w1, w1 = ((w.alloc (.cells #[.bool false, .bool false, .bool false, .bool false, .bool false, .slice none 0 0] 34)).alloc (.cells #[.slice none 0 0] 30)).alloc (.cells #[.int .i64 0] 3) := ⟨_, rfl⟩
  rw [← hw1, ← hp2, ← hp1, ← hp]
  have hk1 : Kp [] w w1 := by rw [hw1]; exact (((Kp.refl _ _).alloc _).alloc _).alloc _
  have hs1 : w1.heap.size = w.heap.size + 3 := by rw [hw1]; simp
  have hc0 : w1.heap[p]? = some (.cells #[.bool false, .bool false, .bool false, .bool false, .bool false, .slice none 0 0] 34) := by
    rw [hw1, hp]; exact (heap_alloc_lt (by simp; omega) _).trans ((heap_alloc_lt (by simp) _).trans (heap_alloc_same _ _))
  have hc1 : w1.heap[p1]? = some (.cells #[.slice none 0 0] 30) := by
    rw [hw1, hp1]
    refine (heap_alloc_lt (by simp) _).trans ?_
    have := heap_alloc_same (w.alloc (.cells #[.bool false, .bool false, .bool false, .bool false, .bool false, .slice none 0 0] 34)) (.cells #[.slice none 0 0] 30)
    simpa using this
  have hc2 : w1.heap[p2]? = some (.cells #[.int .i64 0] 3) := by
    rw [hw1, hp2]
    have := heap_alloc_same ((w.alloc (.cells #[.bool false, .bool false, .bool false, .bool false, .bool false, .slice none 0 0] 34)).alloc (.cells #[.slice none 0 0] 30)) (.cells #[.int .i64 0] 3)
    simpa using this
  clear hw1
  have hcv1 := Lib.run_convert_string_bytes (P := Tryz.prog) w1 9 23 5 (txt (enc a)) Tryz.underlying9 Tryz.underlying23 Tryz.underlying5
  have hby1 := bytes_byt w1 (cs := enc a) (enc_lt hva)
  have hkb1 := bytes_kp w1 5 (txt (enc a))
  have hsz1 := Lib.bytesWorld_size w1 5 (txt (enc a))
  rw [txt_size] at hcv1
  generalize Lib.bytesWorld w1 5 (txt (enc a)) = w2 at hcv1 hby1 hkb1 hsz1
  generalize grownCap w1 (enc a).length 0 5 = cap1 at hcv1
  have hcv2 := Lib.run_convert_string_bytes (P := Tryz.prog) w2 9 23 5 (txt (enc b)) Tryz.underlying9 Tryz.underlying23 Tryz.underlying5
  have hby2 := bytes_byt w2 (cs := enc b) (enc_lt hvb)
  have hkb2 := bytes_kp w2 5 (txt (enc b))
  have hsz2 := Lib.bytesWorld_size w2 5 (txt (enc b))
  rw [txt_size] at hcv2
  generalize Lib.bytesWorld w2 5 (txt (enc b)) = w3 at hcv2 hby2 hkb2 hsz2
  generalize grownCap w2 (enc b).length 0 5 = cap2 at hcv2
  have hc0' := blk_cell (hkb2.at (hkb1.at hc0 (by simp)) (by simp))
  have H := Hid.mk (And.intro hk1 (And.intro hc1 (And.intro hc2 (And.intro hby1 (And.intro hkb1 (And.intro hby2 hkb2))))))
  have HS := Hid.mk (And.intro hp (And.intro hp1 (And.intro hp2 (And.intro hs1 (And.intro hsz1 hsz2)))))
  clear hk1 hc1 hc2 hby1 hkb1 hby2 hkb2 hp hp1 hp2 hs1 hsz1 hsz2 hc0
  go_wp2_with fail
  clear hcv1 hcv2 hc0'
  refine (list_none w3).mono ?_
  rintro e w4 ⟨sa, capo, rfl, hk4, q, hown, hq⟩
  obtain ⟨go, rfl, hgo1, hgo2, hcs⟩ := own_cells hown (by omega)
  have hkk := (H.out.1.trans H.out.2.2.2.2.1).trans (H.out.2.2.2.2.2.2.trans hk4)
  have HC := Hid.mk (top_add a b path _ _ ih hva hvb hha hhb w1.heap.size w2.heap.size cap1 cap2 go capo q w4 hl1 hl2 ((H.out.2.2.2.1.kept H.out.2.2.2.2.2.2 (by simp)).kept hk4 (by simp)) (H.out.2.2.2.2.2.1.kept hk4 (by simp)) (by have := HS.out; have := hk4.size; omega) (by have := HS.out; have := hk4.size; omega) (hcs 0 (by omega)) (blk_cell hq 0))
  have H4 := Hid.mk (And.intro hkk hk4)
  clear hcs hown hq hkk hk4 hgo1 hgo2
  go_wp2_with fail
  refine HC.out.mono ?_
  rintro e w5 ⟨g5, c5, rfl, hop5, hk5⟩
  have H5 := Hid.mk (And.intro hop5 hk5)
  clear hop5 hk5
  go_wp2_with fail
  refine (plain_one g5 c5 path tx vx w5 H5.out.1).mono ?_
  rintro e w6 ⟨q6, c6, rfl, hpl, hk6⟩
  have hk16 : Kp [] w1 w6 := ((H.out.2.2.2.2.1.trans H.out.2.2.2.2.2.2).trans (H4.out.2.trans H5.out.2)).trans hk6
  have hp1c := hk16.at H.out.2.1 (by simp)
  have hp2c := hk16.at H.out.2.2.1 (by simp)
  have c1 := blk_cell hp1c
  have f1 := blk_frozen hp1c
  have c2 := blk_cell hp2c
  have f2 := blk_frozen hp2c
  have hne : p1 ≠ p2 := by have := HS.out; omega
  have hne2 : p2 ≠ p1 := by have := HS.out; omega
  have hq1 : q6 ≠ p1 := by
    rintro rfl
    have h1 := hpl.1
    rw [c1] at h1
    cases h1
  have hq2 : q6 ≠ p2 := by
    rintro rfl
    have h1 := hpl.1
    rw [c2] at h1
    cases h1
  have H6 := Hid.mk (And.intro hpl (And.intro (H4.out.1.trans (H5.out.2.trans hk6)) (And.intro hq1 hq2)))
  clear hp1c hp2c hpl hk6 hk16 hq1 hq2
  go_wp2_with fail
  have hkf : PlainAt ((w6.setCell ⟨p1, 0, none⟩ (.slice (some ⟨q6, 0, none⟩) 1 c6)).setCell ⟨p2, 0, none⟩ (.int .i64 0)) q6 path ∧ Kp [] w ((w6.setCell ⟨p1, 0, none⟩ (.slice (some ⟨q6, 0, none⟩) 1 c6)).setCell ⟨p2, 0, none⟩ (.int .i64 0)) := by
    refine ⟨?_, (H6.out.2.1.setCell _ (.inr (by have := HS.out; simp; omega))).setCell _ (.inr (by have := HS.out; simp; omega))⟩
    have hc : ∀ i, ((w6.setCell ⟨p1, 0, none⟩ (.slice (some ⟨q6, 0, none⟩) 1 c6)).setCell ⟨p2, 0, none⟩ (.int .i64 0)).cell? ⟨q6, i, none⟩ = w6.cell? ⟨q6, i, none⟩ := fun i =>
      (World.cell?_of_block (heap_setCell_other (a := ⟨p2, 0, none⟩) H6.out.2.2.2 _)).trans (World.cell?_of_block (heap_setCell_other (a := ⟨p1, 0, none⟩) H6.out.2.2.1 _))
    unfold PlainAt
    simp only [hc]
    exact H6.out.1
  have Hkf := Hid.mk hkf
  clear hkf
  refine leaves_cons (f := 11) (args := #[.pointer (some ⟨p1, 0, none⟩), .pointer (some ⟨p2, 0, none⟩)]) (by simp) (by simp [go_sem]) ?_
  refine (f11_any p1 p2 _).mono ?_
  rintro e u' w'' ⟨rfl, rfl, rfl⟩
  simp [Leaves, settle, results, Tryz.results8, go_sem, c1, c2]
  exact Hkf.out

/-- The two documents of known. -/
def ka : J := .obj1 97 (.obj1 98 (.arr [(false, [1]), (false, [2])]))
def kb : J := .obj1 97 (.obj1 98 (.arr [(false, [1]), (false, [3])]))
theorem k_ne : feq (fb (false, [2])) (fb (false, [3])) = false := by decide +kernel
theorem kv (n : Nat) (h : n < 10) : NumV (false, [n]) := by
  refine ⟨⟨by simp, by simp, by simpa using h, ?_⟩, ?_⟩
  · by_cases h0 : n = 0
    · left; simp [h0]
    · right; simpa using h0
  · have hd := digs_val n (by omega)
    have e : digs n = [n] := by unfold digs; rw [if_pos h]
    rw [e] at hd
    cases hp : pfF [n] with
    | none => rw [hp] at hd; simp at hd
    | some r => rw [hp] at hd; exact ⟨r, rfl, by simpa using hd⟩
theorem k_add : DiffAdd ka kb ([47, 97] ++ ([47, 98] ++ [47, 49])) (fv (false, [3])) (fv (false, [2])) :=
  diffAdd_obj 97 (by unfold keyOk; omega) (.obj1 98 (.arr [(false, [1]), (false, [2])])) (.obj1 98 (.arr [(false, [1]), (false, [3])])) ⟨rfl, by unfold keyOk; omega, rfl, by simp⟩ (by simp [deq, deqL, one_eq, k_ne]) _ _ _
    (diffAdd_obj 98 (by unfold keyOk; omega) (.arr [(false, [1]), (false, [2])]) (.arr [(false, [1]), (false, [3])]) ⟨rfl, by simp⟩ (by simp [deq, deqL, one_eq, k_ne]) _ _ _ (diffAdd_arr (false, [1]) (false, [2]) (false, [3]) one_eq k_ne))
theorem k_jva : JV ka := ⟨by unfold keyOk; omega, by unfold keyOk; omega, by intro x hx; simp at hx; rcases hx with rfl | rfl <;> exact kv _ (by omega)⟩
theorem k_jvb : JV kb := ⟨by unfold keyOk; omega, by unfold keyOk; omega, by intro x hx; simp at hx; rcases hx with rfl | rfl <;> exact kv _ (by omega)⟩
theorem k_diff (w : World) : Calls Tryz.prog 8 #[.string { data := #[123, 34, 97, 34, 58, 123, 34, 98, 34, 58, 91, 49, 44, 50, 93, 125, 125] }, .string { data := #[123, 34, 97, 34, 58, 123, 34, 98, 34, 58, 91, 49, 44, 51, 93, 125, 125] }, .agg #[.bool false, .bool false, .bool false, .bool false, .bool false, .slice none 0 0]] w fun e w' =>
    ∃ q c, e = .returned (.tuple #[.slice (some ⟨q, 0, none⟩) 1 c, .int .i64 0]) ∧ PlainAt w' q ([47, 97] ++ ([47, 98] ++ [47, 49])) ∧ Kp [] w w' := by
  have h := k_add
  have e1 : fv (false, [3]) = .iface 87 (.float .f64 4613937818241073152) := by show Value.iface 87 (.float .f64 (fb (false, [3]))) = _; rw [fb3]
  rw [e1] at h
  exact diff_add ka kb _ 87 (.float .f64 (fb (false, [2]))) h k_jva k_jvb (by simp [ka, hgt]) (by simp [kb, hgt]) (by decide) (by decide) w
set_option maxRecDepth 100000 in
set_option maxHeartbeats 1000000 in
theorem known_any (w : World) (hg : GL w) : Calls Tryz.prog 4 #[] w fun e w' => e = .returned (.bool true) ∧ Kp [] w w' := by
  have H := Hid.mk hg
  clear hg
  go_enter Tryz.func4, Tryz.ntmps4
  go_wp2_with fail
  refine (k_diff w).mono ?_
  rintro e w1 ⟨q, c, rfl, hp, hk⟩
  obtain ⟨c0, c1, c2, c3⟩ := hp
  replace c1 : w1.cell? ⟨q, 1, none⟩ = some (.string { data := #[47, 97, 47, 98, 47, 49] }) := c1
  have H1 := Hid.mk hk
  clear hk
  go_wp2_with fail
  refine (same3 w1 (H.out.kept H1.out (by simp) (by simp))).mono ?_
  rintro e w2 ⟨rfl, hk2⟩
  have H2 := Hid.mk (H1.out.trans hk2)
  clear hk2
  go_wp2_with fail
  go_ret
  exact ⟨rfl, H2.out⟩
end Go.Proofs.YtpigmadopflfkaaGreatDoor
