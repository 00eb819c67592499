/- lightstrconv: cmp, up and down of decimals, as FormatFloat of 3 meets them. -/
import Derived.Test.YtpigmadopflfkaaGreatDoorFmA
namespace Go.Proofs.YtpigmadopflfkaaGreatDoor
open Go.RowKit Go.BigFrame
theorem alloc_two (w : World) (o o' : Obj) : ((w.alloc o).alloc o').heap[w.heap.size + 1]? = some o' := by
  have := heap_alloc_same (w.alloc o) o'
  simpa using this
set_option maxRecDepth 100000 in
set_option maxHeartbeats 1000000 in
theorem cmp_nil (B1 B2 a b : Nat) (ds : List Nat) (dp dq : Int) (w : World) (ha : Dec B1 w a ds dp) (hb : Dec B2 w b [] dq) (hl : ds.length < 1000000) :
    Calls Tryz.prog 173 #[.pointer (some ⟨a, 0, none⟩), .pointer (some ⟨b, 0, none⟩)] w fun e w' => e = .returned (.int .i64 (ds.length : Nat)) ∧ ∃ k, w' = w.drewN k := by
  obtain ⟨a1, c1, hc1, _, _, _, _, _⟩ := ha.opened
  obtain ⟨a2, c2, hc2, _, _, _, _, _⟩ := hb.opened
  simp only [List.length_nil] at hc2
  clear ha hb
  have e1 : IntKind.i64.wrap (ds.length : Int) = (ds.length : Int) := IntWalk.i64_in _ (by omega)
  by_cases h0 : ds.length = 0
  · rw [h0] at hc1 ⊢
    clear e1 h0
    go_enter Tryz.func173, Tryz.ntmps173
    go_wp2_with fail
    go_quiet (fail)
    go_wp2_with fail
    go_ret
    exact ⟨rfl, _, rfl⟩
  · have h1 : ((ds.length : Int) == 0) = false := by simpa using h0
    clear h0
    go_enter Tryz.func173, Tryz.ntmps173
    go_wp2_with fail
    go_quiet (fail)
    go_wp2_with fail
    go_ret
    exact ⟨rfl, _, rfl⟩
set_option maxRecDepth 100000 in
set_option maxHeartbeats 1000000 in
theorem cmp_pt (B1 B2 a b : Nat) (ds es : List Nat) (dp dq : Int) (w : World) (ha : Dec B1 w a ds dp) (hb : Dec B2 w b es dq) (hl : ds ≠ []) (hm : es ≠ []) (hd : dp ≠ dq) (h1 : -1000 ≤ dp ∧ dp ≤ 1000) (h2 : -1000 ≤ dq ∧ dq ≤ 1000) :
    Calls Tryz.prog 173 #[.pointer (some ⟨a, 0, none⟩), .pointer (some ⟨b, 0, none⟩)] w fun e w' => e = .returned (.int .i64 (dp - dq)) ∧ ∃ k, w' = w.drewN k := by
  obtain ⟨a1, c1, hc1, _, _, _, _, _⟩ := ha.opened
  obtain ⟨a2, c2, hc2, _, _, _, _, _⟩ := hb.opened
  clear ha hb
  have e1 : IntKind.i64.wrap (dp - dq) = dp - dq := IntWalk.i64_in _ (by omega)
  have t1 : ((ds.length : Int) == 0) = false := by simpa using hl
  have t2 : ((es.length : Int) == 0) = false := by simpa using hm
  have t3 : (dp != dq) = true := by simpa using hd
  clear hl hm hd h1 h2
  go_enter Tryz.func173, Tryz.ntmps173
  go_wp2_with fail
  go_quiet (fail)
  go_wp2_with fail
  go_quiet (fail)
  go_wp2_with fail
  go_ret
  exact ⟨rfl, _, by rw [World.drewN_drewN]⟩
set_option maxRecDepth 100000 in
set_option maxHeartbeats 1000000 in
theorem up_zero (B a : Nat) (ds : List Nat) (dp : Int) (w : World) (ha : Dec B w a ds dp) (hl : ds ≠ []) (h1 : -1000 ≤ dp ∧ dp ≤ 1000) :
    Calls Tryz.prog 172 #[.pointer (some ⟨a, 0, none⟩), .int .i64 0] w fun e w' => ∃ b, e = .returned (.pointer (some ⟨b, 0, none⟩)) ∧ w.heap.size ≤ b ∧ Dec w.heap.size w' b [1] (dp + 1) ∧ Kp [] w w' := by
  obtain ⟨a1, c1, hc1, _, _, _, _, _⟩ := ha.opened
  have hal : a < w.heap.size := by obtain ⟨_, _, h, _⟩ := ha; exact lt_of_heap h
  have t1 : ¬ (ds = []) := hl
  have e1 : IntKind.i64.wrap (dp + 1) = dp + 1 := IntWalk.i64_in _ (by omega)
  have hc3 : ∀ o i, (w.alloc o).cell? ⟨a, i, none⟩ = (#[.slice a1 ds.length c1, .int .i64 dp] : Array Value)[i]? := fun o i => by
    rw [← hc1 i]
    exact World.cell?_of_block (heap_alloc_lt hal o)
  clear ha hl
  go_enter Tryz.func172, Tryz.ntmps172
  go_wp2_with fail
  apply wp_loop_once
  go_wp2_with fail
  refine bodyPost_ret (v := .pointer (some ⟨w.heap.size + 1, 0, none⟩)) (by simp [results, Tryz.results172, go_sem]) rfl ⟨w.heap.size + 1, rfl, by omega, ?_, ((Kp.refl _ _).alloc _).alloc _⟩
  refine ⟨some ⟨w.heap.size, 0, none⟩, 1, ?_, ⟨rfl, .inr ⟨w.heap.size, 1, #[.int .u8 1], rfl, Nat.le_refl _, ?_, Nat.le_refl _, by decide, rfl, rfl⟩⟩, (fun g hg => by cases hg; simp), by simp⟩
  · have := heap_alloc_same (w.alloc (.cells #[.int .u8 1] 5)) (.cells #[.slice (some ⟨w.heap.size, 0, none⟩) 1 1, .int .i64 (dp + 1)] 195)
    simpa using this
  · exact (heap_alloc_lt (by simp) _).trans (heap_alloc_same _ _)
set_option maxRecDepth 100000 in
set_option maxHeartbeats 1000000 in
theorem down_zero (B a : Nat) (ds : List Nat) (dp : Int) (w : World) (ha : Dec B w a ds dp) (hl : ds ≠ []) (h1 : -1000 ≤ dp ∧ dp ≤ 1000) :
    Calls Tryz.prog 171 #[.pointer (some ⟨a, 0, none⟩), .int .i64 0] w fun e w' => ∃ b, e = .returned (.pointer (some ⟨b, 0, none⟩)) ∧ w.heap.size ≤ b ∧ Dec w.heap.size w' b [] 0 ∧ Kp [] w w' := by
  obtain ⟨a1, c1, hc1, _, _, _, _, hcells⟩ := ha.opened
  obtain ⟨g0, _, rfl, _, _, _, _⟩ := hcells 0 (List.length_pos_iff.2 hl)
  clear hcells
  have hal : a < w.heap.size := by obtain ⟨_, _, h, _⟩ := ha; exact lt_of_heap h
  have t1 : ¬ (ds = []) := hl
  have hc3 : ∀ o i, (w.alloc o).cell? ⟨a, i, none⟩ = (#[.slice (some ⟨g0, 0, none⟩) ds.length c1, .int .i64 dp] : Array Value)[i]? := fun o i => by
    rw [← hc1 i]
    exact World.cell?_of_block (heap_alloc_lt hal o)
  clear ha hl
  go_enter Tryz.func171, Tryz.ntmps171
  go_wp2_with fail
  go_region
  · obtain ⟨w1, hw1⟩ : ∃ w1, w1 = ((w.alloc (.cells #[] 5)).alloc (.cells #[.slice (some ⟨w.heap.size, 0, none⟩) 0 0, .int .i64 dp] 195)).drew := ⟨_, rfl⟩
    rw [← hw1]
    have hd : Dec w.heap.size w1 (w.heap.size + 1) [] dp := by
      rw [hw1]
      refine ⟨some ⟨w.heap.size, 0, none⟩, 0, ?_, ⟨rfl, .inr ⟨w.heap.size, 0, #[], rfl, Nat.le_refl _, ?_, Nat.le_refl _, by decide, rfl, rfl⟩⟩, (fun g hg => by cases hg; simp), by simp⟩
      · exact alloc_two w _ _
      · exact (heap_alloc_lt (by simp) _).trans (heap_alloc_same _ _)
    have hk : Kp [] w w1 := by rw [hw1]; exact (((Kp.refl _ _).alloc _).alloc _).drew
    have H := Hid.mk (And.intro hd hk)
    clear hd hk hw1 hc1 hc3
    go_wp2_with fail
    refine (trim_any w.heap.size (w.heap.size + 1) [] dp w1 H.out.1).mono ?_
    rintro e w2 ⟨rfl, hq⟩
    have hq2 : Dec w.heap.size w2 (w.heap.size + 1) [] 0 ∧ Kp [] w w2 := by
      obtain ⟨h1, h2⟩ := hq
      have e : trimZ [] = [] := trimZ_no (by simp)
      rw [e, if_pos rfl] at h1
      exact ⟨h1, H.out.2.trans' h2 (fun j hj hjl => by simp at hj; omega)⟩
    have H2 := Hid.mk hq2
    clear hq hq2
    go_wp2_with fail
    go_ret
    exact ⟨_, rfl, by omega, H2.out⟩
  · obtain ⟨w1, hw1⟩ : ∃ w1, w1 = ((w.alloc (.cells #[.slice (some ⟨w.heap.size + 1, 0, none⟩) 0 0, .int .i64 dp] 195)).alloc (.cells #[] 5)).drew := ⟨_, rfl⟩
    rw [← hw1]
    have hd : Dec w.heap.size w1 (w.heap.size) [] dp := by
      rw [hw1]
      refine ⟨some ⟨w.heap.size + 1, 0, none⟩, 0, ?_, ⟨rfl, .inr ⟨w.heap.size + 1, 0, #[], rfl, by omega, ?_, Nat.le_refl _, by decide, rfl, rfl⟩⟩, (fun g hg => by cases hg; simp), by simp⟩
      · exact (heap_alloc_lt (by simp) _).trans (heap_alloc_same _ _)
      · exact alloc_two w _ _
    have hk : Kp [] w w1 := by rw [hw1]; exact (((Kp.refl _ _).alloc _).alloc _).drew
    have H := Hid.mk (And.intro hd hk)
    clear hd hk hw1 hc1 hc3
    go_wp2_with fail
    refine (trim_any w.heap.size (w.heap.size) [] dp w1 H.out.1).mono ?_
    rintro e w2 ⟨rfl, hq⟩
    have hq2 : Dec w.heap.size w2 (w.heap.size) [] 0 ∧ Kp [] w w2 := by
      obtain ⟨h1, h2⟩ := hq
      have e : trimZ [] = [] := trimZ_no (by simp)
      rw [e, if_pos rfl] at h1
      exact ⟨h1, H.out.2.trans' h2 (fun j hj hjl => by simp at hj; omega)⟩
    have H2 := Hid.mk hq2
    clear hq hq2
    go_wp2_with fail
    go_ret
    exact ⟨_, rfl, by omega, H2.out⟩
end Go.Proofs.YtpigmadopflfkaaGreatDoor
