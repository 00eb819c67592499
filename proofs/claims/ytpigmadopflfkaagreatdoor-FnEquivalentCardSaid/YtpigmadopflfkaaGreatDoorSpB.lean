/- The reader of spec at the text 3, utf8.ValidString and parts of strconv.ParseFloat there. No conditions. -/
import Derived.Test.YtpigmadopflfkaaGreatDoorBase
import Derived.Outline
import Derived.WalkMore
namespace Go.Proofs.YtpigmadopflfkaaGreatDoor
open Go.RowKit Go.BigFrame
/-- The reader in block r: at i, so deep. -/
def R3 (w : World) (r : Nat) (i dp : Int) : Prop :=
  w.heap[r]? = some (.cells #[.string { data := #[51] }, .int .i64 i, .int .i64 dp, .int .i64 1073741824, .bool false, .bool false, .bool false, .bool false, .bool false] 85)
theorem R3.drewN {w : World} {r : Nat} {i dp : Int} (h : R3 w r i dp) (n : Nat) : R3 (w.drewN n) r i dp := h
set_option maxHeartbeats 400000 in
theorem next0 (r : Nat) (dp : Int) (w : World) (h : R3 w r 0 dp) : Calls Tryz.prog 40 #[.pointer (some ⟨r, 0, none⟩)] w fun e w' => e = .returned (.int .u8 51) ∧ ∃ k, w' = w.drewN k := by
  have hc := blk_cell h
  clear h
  go_enter Tryz.func40, Tryz.ntmps40
  go_wp2_with fail
  go_quiet (fail)
  go_wp2_with fail
  go_quiet (fail)
  go_wp2_with fail
  go_ret
  exact ⟨rfl, _, by rw [World.drewN_drewN]⟩
set_option maxHeartbeats 400000 in
theorem next1 (r : Nat) (dp : Int) (w : World) (h : R3 w r 1 dp) : Calls Tryz.prog 40 #[.pointer (some ⟨r, 0, none⟩)] w fun e w' => e = .returned (.int .u8 0) ∧ ∃ k, w' = w.drewN k := by
  have hc := blk_cell h
  clear h
  go_enter Tryz.func40, Tryz.ntmps40
  go_wp2_with fail
  go_quiet (fail)
  go_wp2_with fail
  go_ret
  exact ⟨rfl, _, rfl⟩
set_option maxHeartbeats 400000 in
theorem blanks0 (r : Nat) (dp : Int) (w : World) (h : R3 w r 0 dp) : Calls Tryz.prog 27 #[.pointer (some ⟨r, 0, none⟩)] w fun e w' => e = .returned (.tuple #[]) ∧ ∃ k, w' = w.drewN k := by
  go_enter Tryz.func27, Tryz.ntmps27
  go_wp2_with fail
  refine (next0 r dp w h).mono ?_
  rintro e w' ⟨rfl, k, rfl⟩
  go_wp2_with fail
  apply wp_loop_once
  go_wp2_with fail
  exact bodyPost_end (results_none rfl _ _ _) rfl ⟨rfl, k, rfl⟩
set_option maxHeartbeats 400000 in
theorem blanks1 (r : Nat) (dp : Int) (w : World) (h : R3 w r 1 dp) : Calls Tryz.prog 27 #[.pointer (some ⟨r, 0, none⟩)] w fun e w' => e = .returned (.tuple #[]) ∧ ∃ k, w' = w.drewN k := by
  go_enter Tryz.func27, Tryz.ntmps27
  go_wp2_with fail
  refine (next1 r dp w h).mono ?_
  rintro e w' ⟨rfl, k, rfl⟩
  go_wp2_with fail
  apply wp_loop_once
  go_wp2_with fail
  exact bodyPost_end (results_none rfl _ _ _) rfl ⟨rfl, k, rfl⟩
set_option maxRecDepth 100000 in
set_option maxHeartbeats 1000000 in
theorem valid3 (w : World) : Calls Tryz.prog 26 #[.string { data := #[51] }] w fun e w' => e = .returned (.bool true) ∧ w = w' := by
  go_enter Tryz.func26, Tryz.ntmps26
  go_wp2_with fail
  go_loopg [0] 1 (fun f vs wr => ((f = 1 ∧ vs = .string { data := #[51] }) ∨ (f = 0 ∧ vs = .string { data := #[] })) ∧ w = wr)
  case atStart => exact ⟨.inl ⟨rfl, rfl⟩, rfl⟩
  case round =>
    obtain ⟨⟨rfl, rfl⟩ | ⟨rfl, rfl⟩, rfl⟩ := hrel
    · go_wp2_with fail
      go_roundg 0
      case measure => omega
      case rel => exact ⟨.inr ⟨rfl, rfl⟩, rfl⟩
    · go_wp2_with fail
      go_ret
      exact ⟨rfl, rfl⟩
set_option maxRecDepth 100000 in
set_option maxHeartbeats 1000000 in
theorem digits3 (r : Nat) (dp : Int) (w : World) (h : R3 w r 0 dp) : Calls Tryz.prog 60 #[.pointer (some ⟨r, 0, none⟩)] w fun e w' => e = .returned (.tuple #[]) ∧ R3 w' r 1 dp ∧ Kp [r] w w' := by
  have hc := blk_cell h
  have H := Hid.mk h
  clear h
  go_enter Tryz.func60, Tryz.ntmps60
  go_wp2_with fail
  refine (next0 r dp w H.out).mono ?_
  rintro e w' ⟨rfl, k, rfl⟩
  clear hc
  go_wp2_with fail
  go_loopg [3] 1 (fun f vc wr => (f = 1 ∧ vc = .int .u8 51 ∧ R3 wr r 0 dp ∧ Kp [r] w wr) ∨ (f = 0 ∧ vc = .int .u8 0 ∧ R3 wr r 1 dp ∧ Kp [r] w wr))
  case atStart => exact .inl ⟨rfl, rfl, H.out.drewN k, (Kp.refl _ _).drewN k⟩
  case round =>
    obtain ⟨rfl, rfl, h, hk⟩ | ⟨rfl, rfl, h, hk⟩ := hrel
    · have hc := blk_cell h
      have hf := blk_frozen h
      have H1 := Hid.mk (And.intro h hk)
      clear h hk
      go_wp2_with fail
      have h2 : R3 (wr.setCell ⟨r, 1, none⟩ (.int .i64 1)) r 1 dp := by unfold R3; rw [heap_setCell_same H1.out.1]; rfl
      have hk2 : Kp [r] w (wr.setCell ⟨r, 1, none⟩ (.int .i64 1)) := H1.out.2.setCell _ (.inl (by simp))
      have H2 := Hid.mk (And.intro h2 hk2)
      clear h2 hk2
      generalize wr.setCell ⟨r, 1, none⟩ (.int .i64 1) = w3 at H2
      refine (next1 r dp w3 H2.out.1).mono ?_
      rintro e w' ⟨rfl, k2, rfl⟩
      clear hc hf
      go_wp2_with fail
      go_roundg 0
      case measure => omega
      case rel => exact .inr ⟨rfl, rfl, H2.out.1.drewN k2, H2.out.2.drewN k2⟩
    · have hc := blk_cell h
      have hf := blk_frozen h
      have H1 := Hid.mk (And.intro h hk)
      clear h hk
      go_wp2_with fail
      refine bodyPost_end (results_none rfl _ _ _) rfl ⟨rfl, ?_, H1.out.2.setCell _ (.inl (by simp))⟩
      unfold R3; rw [heap_setCell_same H1.out.1]; rfl
end Go.Proofs.YtpigmadopflfkaaGreatDoor

namespace Go.Proofs.YtpigmadopflfkaaGreatDoor
open Go.RowKit Go.BigFrame
set_option maxRecDepth 100000 in
set_option maxHeartbeats 1000000 in
theorem special3 (w : World) : Calls Tryz.prog 195 #[.string { data := #[51] }] w fun e w' => e = .returned (.tuple #[.float .f64 0, .int .i64 0, .bool false]) ∧ w = w' := by
  go_enter Tryz.func195, Tryz.ntmps195
  go_wp2_with fail
  go_ret3
  exact ⟨rfl, rfl⟩
set_option maxRecDepth 100000 in
set_option maxHeartbeats 1000000 in
theorem exact3 (w : World) (h7 : w.cell? ⟨7, 0, none⟩ = some (.int .u64 52)) : Calls Tryz.prog 206 #[.int .u64 3, .int .i64 0, .bool false] w fun e w' => e = .returned (.tuple #[.float .f64 4613937818241073152, .bool true]) ∧ w = w' := by
  go_enter Tryz.func206, Tryz.ntmps206
  go_wp2_with fail
  go_ret2
  exact ⟨rfl, rfl⟩
set_option maxRecDepth 100000 in
set_option maxHeartbeats 2000000 in
theorem readFloat3 (w : World) : Calls Tryz.prog 196 #[.string { data := #[51] }] w fun e w' => e = .returned (.tuple #[.int .u64 3, .int .i64 0, .bool false, .bool false, .bool false, .int .i64 1, .bool true]) ∧ w = w' := by
  go_enter Tryz.func196, Tryz.ntmps196
  go_wp2_with fail
  go_step3
  go_wp2_with fail
  go_step3
  go_wp2_with fail
  go_loopg [2, 5, 7, 9, 13, 14, 15, 16, 17] 1 (fun f v2 v5 v7 v9 v13 v14 v15 v16 v17 wr => ((f = 1 ∧ v2 = .int .u64 0 ∧ v7 = .int .i64 0 ∧ v14 = .bool false ∧ v15 = .int .i64 0 ∧ v16 = .int .i64 0) ∨ (f = 0 ∧ v2 = .int .u64 3 ∧ v7 = .int .i64 1 ∧ v14 = .bool true ∧ v15 = .int .i64 1 ∧ v16 = .int .i64 1)) ∧
    v5 = .bool false ∧ v9 = .bool false ∧ v13 = .bool false ∧ v17 = .int .i64 0 ∧ w = wr)
  case atStart => exact ⟨.inl ⟨rfl, rfl, rfl, rfl, rfl, rfl⟩, rfl, rfl, rfl, rfl, rfl⟩
  case round =>
    obtain ⟨⟨rfl, rfl, rfl, rfl, rfl, rfl⟩ | ⟨rfl, rfl, rfl, rfl, rfl, rfl⟩, rfl, rfl, rfl, rfl, rfl⟩ := hrel
    · go_wp2_with fail
      go_roundg 0
      case measure => omega
      case rel => exact ⟨.inr ⟨rfl, rfl, rfl, rfl, rfl, rfl⟩, rfl, rfl, rfl, rfl, rfl⟩
    · go_wp2_with fail
      rw [Exit.noGoto_ret]
      exact bodyPost_ret (v := .tuple #[.int .u64 3, .int .i64 0, .bool false, .bool false, .bool false, .int .i64 1, .bool true]) (by simp [results, Tryz.results196, go_sem]) rfl ⟨rfl, rfl⟩
end Go.Proofs.YtpigmadopflfkaaGreatDoor
