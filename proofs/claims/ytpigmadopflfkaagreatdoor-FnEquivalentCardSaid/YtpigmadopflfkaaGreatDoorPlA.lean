/- impl.plain of a patch of one operation whose value is 3. -/
import Derived.Test.YtpigmadopflfkaaGreatDoorFmD
import Derived.Test.YtpigmadopflfkaaGreatDoorOeA
namespace Go.Proofs.YtpigmadopflfkaaGreatDoor
open Go.RowKit Go.BigFrame
theorem fb3 : fb (false, [3]) = 4613937818241073152 := by decide +kernel
/-- The operation as the law reads it, in block g. -/
def PlainAt (w : World) (g : Nat) (path : List Nat) : Prop := w.cell? ⟨g, 0, none⟩ = some (.string { data := #[114, 101, 112, 108, 97, 99, 101] }) ∧ w.cell? ⟨g, 1, none⟩ = some (.string (txt path)) ∧ w.cell? ⟨g, 2, none⟩ = some (.string { data := #[] }) ∧ w.cell? ⟨g, 3, none⟩ = some (.string { data := #[51] })
theorem info37 : (Tryz.prog.info? 37).map (fun i => (i.zero, i.size, i.bytes)) = some (some (.agg #[.string .empty, .string .empty, .string .empty, .string .empty]), 4, 64) := by kernel_rfl
set_option maxRecDepth 100000 in
set_option maxHeartbeats 2000000 in
theorem plain_one (g cap : Nat) (path : List Nat) (tx : TypeId) (vx : Value) (w : World) (h : OpAt w g path (.iface 87 (.float .f64 4613937818241073152)) (.iface tx vx)) :
    Calls Tryz.prog 14 #[.slice (some ⟨g, 0, none⟩) 1 cap] w fun e w' => ∃ q c, e = .returned (.tuple #[.slice (some ⟨q, 0, none⟩) 1 c, .int .i64 0]) ∧ PlainAt w' q path ∧ Kp [] w w' := by
  obtain ⟨cur, n, hg, h0, h1, h2, h3, h4, h5⟩ := h
  have k0 := (blk_cell hg 0).trans h0
  have k1 := (blk_cell hg 1).trans h1
  have k2 : w.cell? ⟨g, 2, none⟩ = some (.string { data := #[114, 101, 112, 108, 97, 99, 101] }) := (blk_cell hg 2).trans h2
  have k3 : w.cell? ⟨g, 3, none⟩ = some (.string { data := #[] }) := (blk_cell hg 3).trans h3
  have k4 := (blk_cell hg 4).trans h4
  have k5 := (blk_cell hg 5).trans h5
  clear h0 h1 h2 h3 h4 h5 hg
  have K := Hid.mk (And.intro k0 (And.intro k1 (And.intro k2 (And.intro k3 (And.intro k4 k5)))))
  clear k0 k1 k2 k3 k4 k5
  obtain ⟨i0, hi0, hz0, hz1, hz2⟩ := info_parts info37
  go_enter Tryz.func14, Tryz.ntmps14
  go_wp2_with fail
  go_loopg [4, 12] 1 (fun f vl vi wr => (f = 1 ∧ vl = .slice none 0 0 ∧ vi = .int .i64 0 ∧ w = wr) ∨ (f = 0 ∧ vi = .int .i64 1 ∧ ∃ q c, vl = .slice (some ⟨q, 0, none⟩) 1 c ∧ PlainAt wr q path ∧ Kp [] w wr))
  case atStart => exact .inl ⟨rfl, rfl, rfl, rfl⟩
  case round =>
    obtain ⟨rfl, rfl, rfl, rfl⟩ | ⟨rfl, rfl, q, c, rfl, hp, hk⟩ := hrel
    · obtain ⟨k0, k1, k2, k3, k4, k5⟩ := K.out
      go_wp2_with fail
      obtain ⟨p, hp⟩ : ∃ p, p = w.heap.size + 1 := ⟨_, rfl⟩
      obtain ⟨w1, hw1⟩ : ∃ w1, w1 = (w.alloc (.cells #[.iface 87 (.float .f64 4613937818241073152), .iface tx vx, .string { data := #[114, 101, 112, 108, 97, 99, 101] }, .string { data := #[] }, .string (txt path), .int .i64 n] 80)).alloc (.cells #[.string { data := #[114, 101, 112, 108, 97, 99, 101] }, .string (txt path), .string { data := #[] }, .string { data := #[] }] 37) := ⟨_, rfl⟩
      rw [← hw1, ← hp]
      have hp1 : w1.heap[p]? = some (.cells #[.string { data := #[114, 101, 112, 108, 97, 99, 101] }, .string (txt path), .string { data := #[] }, .string { data := #[] }] 37) := by rw [hw1, hp]; exact alloc_two w _ _
      have hk1 : Kp [] w w1 := by rw [hw1]; exact ((Kp.refl _ _).alloc _).alloc _
      have H1 := Hid.mk (And.intro hp1 (And.intro hk1 (show w.heap.size ≤ p by omega)))
      clear hw1 hp1 hk1 hp k0 k1 k2 k3 k4 k5
      refine (marshal3 w1).mono ?_
      rintro e w2 ⟨a', cap', rfl, hb2, hk2⟩
      have hp2 := hk2.at H1.out.1 (by simp)
      have hcv := str_own (cs := [51]) hb2 9 Tryz.underlying9
      have hcp := blk_cell hp2
      have hfp := blk_frozen hp2
      have H2 := Hid.mk (And.intro hp2 (H1.out.2.1.trans hk2))
      clear hp2 hk2 hb2
      go_wp2_with (at_builtin; refine wpList_append_grows _ rfl _ _ 30 rfl 37 i0 _ 4 64 Tryz.underlying30 hi0 hz0 hz1 hz2 rfl (by decide) none 0 0 [] rfl (fun _ => ⟨rfl, rfl⟩) rfl (by intro _ _ _ _ h; simp at h) ⟨w2.heap.size, 0, none⟩ 1 1 [.string { data := #[114, 101, 112, 108, 97, 99, 101] }, .string (txt path), .string { data := #[] }, .string (txt [51])] rfl rfl ?c1 ?c2 (by omega) (by unfold maxLen; omega) (by omega) ?grow)
      case c1 =>
        intro j u hj
        have hb := heap_alloc_same (w2.setCell ⟨p, 3, none⟩ (.string (txt [51]))) (.cells #[.string { data := #[114, 101, 112, 108, 97, 99, 101] }, .string (txt path), .string { data := #[] }, .string (txt [51])] 37)
        have hsz : (w2.setCell ⟨p, 3, none⟩ (.string (txt [51]))).heap.size = w2.heap.size := by simp
        rw [hsz] at hb
        have hj4 : j < 4 := by have := (List.getElem?_eq_some_iff.1 hj).1; simpa using this
        have e : (⟨w2.heap.size, 0, none⟩ : Addr).add j = ⟨w2.heap.size, j, none⟩ := by unfold Addr.add; split <;> simp_all
        rw [e, blk_cell hb]
        rw [← hj]
        obtain rfl | rfl | rfl | rfl : j = 0 ∨ j = 1 ∨ j = 2 ∨ j = 3 := by omega
        all_goals rfl
      case c2 =>
        intro u hu
        simp at hu
        rcases hu with rfl | rfl | rfl | rfl <;> rfl
      case grow =>
        intro v' w3 hown hgr
        obtain ⟨q, c, rfl, hq⟩ : ∃ q c, v' = .slice (some ⟨q, 0, none⟩) 1 c ∧ PlainAt w3 q path := by
          rcases hown.2 with ⟨_, h1⟩ | ⟨q, c, cur, rfl, hb, hg, h1, h2, h3, h4⟩
          · cases h1
          · have e : ∀ j, j < 4 → w3.cell? ⟨q, j, none⟩ = [Value.string { data := #[114, 101, 112, 108, 97, 99, 101] }, .string (txt path), .string { data := #[] }, .string (txt [51])][j]? := fun j hj => by
              have h4' : cur.toList.take (1 * 4) = [Value.string { data := #[114, 101, 112, 108, 97, 99, 101] }, .string (txt path), .string { data := #[] }, .string (txt [51])] := h4
              rw [blk_cell hg, ← h4', List.getElem?_take, if_pos (by omega), Array.getElem?_toList]
            exact ⟨q, c, rfl, e 0 (by omega), e 1 (by omega), e 2 (by omega), e 3 (by omega)⟩
        have H3 := Hid.mk (And.intro hq (show Kp [] w w3 from ((H2.out.2.setCell _ (.inr H1.out.2.2)).alloc _).trans (Kp.ofGrown hgr)))
        clear hown hgr hq
        go_wp2_with fail
        go_roundg 0
        case measure => omega
        case rel => exact .inr ⟨rfl, rfl, q, c, rfl, H3.out⟩
    · have Hf := Hid.mk (And.intro hp hk)
      clear hp hk
      go_wp2_with fail
      go_ret2
      exact ⟨q, c, rfl, Hf.out⟩
end Go.Proofs.YtpigmadopflfkaaGreatDoor
