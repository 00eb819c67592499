/- The digest of a number. Condition: none but that the hasher lies in the memory. -/
import Derived.Test.YtpigmadopflfkaaGreatDoorPtB
import Derived.Deep.RegionWith
namespace Go.Proofs.YtpigmadopflfkaaGreatDoor
open Go.RowKit Go.BigFrame

def hashB (s c : Int) : Int := IntKind.u64.wrap (bits BinOp.xor IntKind.u64 s c * 1099511628211)
theorem hashB_range (s c : Int) : 0 ≤ hashB s c ∧ hashB s c ≤ 18446744073709551615 := by
  unfold hashB
  rw [IntKind.wrap_u64]
  omega
theorem set_cell {w : World} {b o : Nat} {C : Array Value} {T : TypeId} {v : Value} (hb : w.heap[b]? = some (.cells (C.setIfInBounds o v) T)) (u : Value) :
    (w.setCell ⟨b, o, none⟩ u).heap[b]? = some (.cells (C.setIfInBounds o u) T) := by
  rw [heap_setCell_same hb]
  simp

set_option maxRecDepth 100000 in
set_option maxHeartbeats 1000000 in
theorem writeByte_any (b o : Nat) (s c : Int) (w : World) (hs : w.cell? ⟨b, o, none⟩ = some (.int .u64 s)) (hf : w.frozen? ⟨b, o, none⟩ = false) (_h0 : 0 ≤ s ∧ s ≤ 18446744073709551615) (hc : 0 ≤ c ∧ c ≤ 255) :
    Calls Tryz.prog 150 #[.pointer (some ⟨b, o, none⟩), .int .u8 c] w fun e w' => e = .returned .nilIface ∧ w' = w.setCell ⟨b, o, none⟩ (.int .u64 (hashB s c)) := by
  go_enter Tryz.func150, Tryz.ntmps150
  go_wp2_with fail
  go_ret
  exact ⟨rfl, rfl⟩

set_option maxRecDepth 100000 in
set_option maxHeartbeats 1000000 in
theorem write_any (b o g n cap : Nat) (s : Int) (cs : List Int) (C : Array Value) (T : TypeId) (w : World) (hb : w.heap[b]? = some (.cells (C.setIfInBounds o (.int .u64 s)) T)) (ho : o < C.size) (h0 : 0 ≤ s ∧ s ≤ 18446744073709551615)
    (hl : cs.length = n) (hby : ∀ j, j < n → w.cell? ⟨g, j, none⟩ = some (.int .u8 (cs.getD j 0))) (hc : ∀ j, 0 ≤ cs.getD j 0 ∧ cs.getD j 0 ≤ 255) (hgb : g ≠ b) (hn : n < 1000000) :
    Calls Tryz.prog 151 #[.pointer (some ⟨b, o, none⟩), .slice (some ⟨g, 0, none⟩) n cap] w fun e w' => e = .returned (.tuple #[.int .i64 n, .nilIface]) ∧
      w'.heap[b]? = some (.cells (C.setIfInBounds o (.int .u64 (cs.foldl hashB s))) T) ∧ Kp [b] w w' := by
  have H := Hid.mk (And.intro hb (And.intro ho (And.intro h0 (And.intro hl (And.intro hby (And.intro hc hgb))))))
  clear hb ho h0 hl hby hc hgb
  go_enter Tryz.func151, Tryz.ntmps151
  go_wp2_with fail
  go_loopg [10] n (fun f vi wr => ∃ (i : Nat) (s' : Int), vi = .int .i64 i ∧ f = n - i ∧ i ≤ n ∧ s' = (cs.take i).foldl hashB s ∧ (0 ≤ s' ∧ s' ≤ 18446744073709551615) ∧ wr.heap[b]? = some (.cells (C.setIfInBounds o (.int .u64 s')) T) ∧ Kp [b] w wr)
  case atStart => exact ⟨0, s, rfl, rfl, Nat.zero_le _, rfl, H.out.2.2.1, H.out.1, Kp.refl _ _⟩
  case round =>
    obtain ⟨i, s', rfl, hf, hi, hsd, hs1, hb, hkp⟩ := hrel
    have H2 := Hid.mk (And.intro hf (And.intro hsd (And.intro hb hkp)))
    have hsc : wr.cell? ⟨b, o, none⟩ = some (.int .u64 s') := by
      rw [blk_cell hb]
      simp [H.out.2.1]
    have hff := blk_frozen hb
    clear hf hsd hb hkp
    by_cases hin : i < n
    · have hcell : wr.cell? ⟨g, i, none⟩ = some (.int .u8 (cs.getD i 0)) := H2.out.2.2.2.cell (H.out.2.2.2.2.1 i hin) (by simpa using H.out.2.2.2.2.2.2)
      obtain ⟨c, hcd⟩ : ∃ c, c = cs.getD i 0 := ⟨_, rfl⟩
      rw [← hcd] at hcell
      have hc1 : 0 ≤ c ∧ c ≤ 255 := by rw [hcd]; exact H.out.2.2.2.2.2.1 i
      have Hc := Hid.mk (And.intro hcd hc1)
      clear hcd hc1
      go_wp2_with fail
      refine (writeByte_any b o s' c wr hsc (hff o) hs1 Hc.out.2).mono ?_
      rintro e w' ⟨rfl, rfl⟩
      go_wp2_with fail
      go_roundg (n - (i + 1))
      case measure => have := H2.out.1; omega
      case rel =>
        refine ⟨i + 1, hashB s' c, by simp, rfl, by omega, ?_, hashB_range _ _, set_cell H2.out.2.2.1 _, H2.out.2.2.2.setCell _ (.inl (by simp))⟩
        have h1 : i < cs.length := by have := H.out.2.2.2.1; omega
        rw [List.take_add_one, List.foldl_append, ← H2.out.2.1, List.getElem?_eq_getElem h1]
        rw [Hc.out.1, List.getD_eq_getElem?_getD, List.getElem?_eq_getElem h1]
        rfl
    · go_wp2_with fail
      go_ret2
      refine ⟨rfl, ?_, H2.out.2.2.2⟩
      have h1 := H2.out.2.1
      rw [List.take_of_length_le (by have := H.out.2.2.2.1; omega)] at h1
      rw [← h1]
      exact H2.out.2.2.1
end Go.Proofs.YtpigmadopflfkaaGreatDoor

namespace Go.Proofs.YtpigmadopflfkaaGreatDoor
open Go.RowKit Go.BigFrame

def byteOf (n i : Nat) : Int := (n : Int) / 2 ^ (56 - 8 * i) % 256
def bytesOf (n : Nat) : List Int := [byteOf n 0, byteOf n 1, byteOf n 2, byteOf n 3, byteOf n 4, byteOf n 5, byteOf n 6, byteOf n 7]
/-- The digest of a number's bits. -/
def dg (n : Nat) : Int := (bytesOf n).foldl hashB 14695981039346656037
theorem byteOf_range (n i : Nat) : 0 ≤ byteOf n i ∧ byteOf n i ≤ 255 := by
  unfold byteOf
  have h1 := Int.emod_nonneg ((n : Int) / 2 ^ (56 - 8 * i)) (show (256 : Int) ≠ 0 by decide)
  have h2 := Int.emod_lt_of_pos ((n : Int) / 2 ^ (56 - 8 * i)) (show (0 : Int) < 256 by decide)
  omega
theorem bytesOf_get (n j : Nat) (hj : j < 8) : (bytesOf n).getD j 0 = byteOf n j := by
  match j, hj with
  | 0, _ => rfl
  | 1, _ => rfl
  | 2, _ => rfl
  | 3, _ => rfl
  | 4, _ => rfl
  | 5, _ => rfl
  | 6, _ => rfl
  | 7, _ => rfl
theorem bytesOf_range (n j : Nat) : 0 ≤ (bytesOf n).getD j 0 ∧ (bytesOf n).getD j 0 ≤ 255 := by
  by_cases hj : j < 8
  · rw [bytesOf_get n j hj]; exact byteOf_range n j
  · rw [List.getD_eq_getElem?_getD, List.getElem?_eq_none (by simp [bytesOf]; omega)]; decide

set_option maxRecDepth 100000 in
set_option maxHeartbeats 1000000 in
theorem hash_num (n b o : Nat) (s : Int) (C : Array Value) (T : TypeId) (w : World) (hb : w.heap[b]? = some (.cells (C.setIfInBounds o (.int .u64 s)) T)) (ho : o < C.size) (h0 : 0 ≤ s ∧ s ≤ 18446744073709551615) (srt : Bool) :
    Calls Tryz.prog 98 #[.pointer (some ⟨b, o, none⟩), .iface 87 (.float .f64 n), .bool srt] w fun e w' => e = .returned (.tuple #[]) ∧
      w'.heap[b]? = some (.cells (C.setIfInBounds o (.int .u64 ((bytesOf n).foldl hashB s))) T) ∧ Kp [b] w w' := by
  have h9 := ta_no9
  have h4 := ta_no4
  have y87 := ta_yes87
  have hbr := bits_run n
  have Hb := Hid.mk (And.intro hb (And.intro ho h0))
  clear hb ho h0
  go_enter Tryz.func98, Tryz.ntmps98
  go_wp2_with fail
  obtain ⟨g, hg⟩ : ∃ g, g = w.heap.size := ⟨_, rfl⟩
  obtain ⟨w1, hw1⟩ : ∃ w1, w1 = w.alloc (Obj.cells #[.int .u8 0, .int .u8 0, .int .u8 0, .int .u8 0, .int .u8 0, .int .u8 0, .int .u8 0, .int .u8 0] 221) := ⟨_, rfl⟩
  rw [← hw1, ← hg]
  have hk1 : Kp [] w w1 := by rw [hw1]; exact (Kp.refl _ _).alloc _
  have hg1 : w1.heap[g]? = some (Obj.cells #[.int .u8 0, .int .u8 0, .int .u8 0, .int .u8 0, .int .u8 0, .int .u8 0, .int .u8 0, .int .u8 0] 221) := by rw [hw1, hg]; exact heap_alloc_same _ _
  have H1 := Hid.mk (And.intro hk1 (And.intro hg1 hg))
  clear hw1 hk1 hg1 hg
  go_loopg [50] 8 (fun f vi wr => ∃ (i : Nat), vi = .int .i64 i ∧ f = 8 - i ∧ i ≤ 8 ∧ Kp [] w wr ∧ ∃ L : Array Value, L.size = 8 ∧ wr.heap[g]? = some (.cells L 221) ∧ ∀ j, j < i → L[j]? = some (.int .u8 (byteOf n j)))
  case atStart => exact ⟨0, rfl, rfl, by omega, H1.out.1, _, rfl, H1.out.2.1, by omega⟩
  case round =>
    obtain ⟨i, rfl, hf, hi, hkp, L, hL, hb, hj⟩ := hrel
    have Hf := Hid.mk (And.intro hf (And.intro hb (And.intro hkp (And.intro hL hj))))
    have hcc := blk_cell hb
    have hff := blk_frozen hb
    clear hf hb hkp hj hL
    by_cases hin : i < 8
    · have hv : L[i]? = some (L[i]'(by have := Hf.out.2.2.2.1; omega)) := Array.getElem?_eq_getElem _
      generalize L[i]'(by have := Hf.out.2.2.2.1; omega) = v at hv
      go_wp2_with fail
      go_roundg (8 - (i + 1))
      case measure => have := Hf.out.1; omega
      case rel =>
        refine ⟨i + 1, by simp, rfl, by omega, Hf.out.2.2.1.setCell _ (.inr (by have := H1.out.2.2; simp; omega)), _, ?_, heap_setCell_same Hf.out.2.1 _ _, ?_⟩
        · simp [Hf.out.2.2.2.1]
        · intro j hj
          by_cases hji : j = i
          · subst hji
            simp [Hf.out.2.2.2.1, hin, byteOf]
          · rw [Array.getElem?_setIfInBounds_ne (fun e => hji e.symm)]
            exact Hf.out.2.2.2.2 j (by omega)
    · have hi8 : i = 8 := by omega
      subst hi8
      have hbl := lt_of_heap Hb.out.1
      have hb2 : wr.heap[b]? = _ := Hf.out.2.2.1.at Hb.out.1 (by simp)
      have hby : ∀ j, j < 8 → wr.cell? ⟨g, j, none⟩ = some (.int .u8 ((bytesOf n).getD j 0)) := by
        intro j hj
        rw [hcc, bytesOf_get n j hj]
        exact Hf.out.2.2.2.2 j hj
      have H6 := Hid.mk (write_any b o g 8 8 s (bytesOf n) C T wr.drew hb2 Hb.out.2.1 Hb.out.2.2 rfl hby (bytesOf_range n) (by have := H1.out.2.2; omega) (by omega))
      clear hb2 hby hbl hcc hff
      go_wp2_with fail
      go_region_with (go_at_call 151; refine H6.out.mono ?_; rintro e w' ⟨rfl, hb', hk'⟩; have HH := Hid.mk (And.intro hb' hk'); clear hb' hk')
      all_goals (go_wp2_with fail)
      all_goals exact bodyPost_end (results_none rfl _ _ _) rfl ⟨rfl, HH.out.1, (Hf.out.2.2.1.mono (T := [b]) (by simp)).drew.trans HH.out.2⟩

theorem reset_any (b o : Nat) (v : Value) (w : World) (hc : w.cell? ⟨b, o, none⟩ = some v) (hf : w.frozen? ⟨b, o, none⟩ = false) :
    Calls Tryz.prog 97 #[.pointer (some ⟨b, o, none⟩)] w fun e w' => e = .returned (.tuple #[]) ∧ w' = w.setCell ⟨b, o, none⟩ (.int .u64 14695981039346656037) := by
  go_enter Tryz.func97, Tryz.ntmps97
  go_wp2_with fail
  exact bodyPost_end (results_none rfl _ _ _) rfl ⟨rfl, rfl⟩
theorem sum_any (b o : Nat) (v : Int) (w : World) (hc : w.cell? ⟨b, o, none⟩ = some (.int .u64 v)) :
    Calls Tryz.prog 99 #[.pointer (some ⟨b, o, none⟩)] w fun e w' => e = .returned (.int .u64 v) ∧ w = w' := by
  go_enter Tryz.func99, Tryz.ntmps99
  go_wp2_with fail
  go_ret
  exact ⟨rfl, rfl⟩
set_option maxRecDepth 100000 in
set_option maxHeartbeats 1000000 in
theorem digest_num (n b o : Nat) (s : Int) (C : Array Value) (T : TypeId) (w : World) (hb : w.heap[b]? = some (.cells (C.setIfInBounds o (.int .u64 s)) T)) (ho : o < C.size) (srt : Bool) :
    Calls Tryz.prog 66 #[.pointer (some ⟨b, o, none⟩), .iface 87 (.float .f64 n), .bool srt] w fun e w' => e = .returned (.int .u64 (dg n)) ∧
      w'.heap[b]? = some (.cells (C.setIfInBounds o (.int .u64 (dg n))) T) ∧ Kp [b] w w' := by
  have hc := blk_cell hb o
  rw [Array.getElem?_setIfInBounds_self_of_lt ho] at hc
  have hf := blk_frozen hb
  have hb2 := set_cell hb (.int .u64 14695981039346656037)
  have H := Hid.mk (hash_num n b o 14695981039346656037 C T _ hb2 ho (by decide) srt)
  have Ho := Hid.mk ho
  clear hb hb2 ho
  go_enter Tryz.func66, Tryz.ntmps66
  go_wp2_with fail
  refine (reset_any b o _ _ hc (hf o)).mono ?_
  rintro e w' ⟨rfl, rfl⟩
  go_wp2_with fail
  refine H.out.mono ?_
  rintro e w2 ⟨rfl, hb2, hk2⟩
  have hc2 := blk_cell hb2 o
  rw [Array.getElem?_setIfInBounds_self_of_lt Ho.out] at hc2
  have H2 := Hid.mk (And.intro hb2 hk2)
  clear hb2 hk2
  go_wp2_with fail
  refine (sum_any b o _ _ hc2).mono ?_
  rintro e w' ⟨rfl, rfl⟩
  go_wp2_with fail
  go_ret
  exact ⟨rfl, H2.out.1, ((Kp.refl _ _).setCell _ (.inl (by simp))).trans H2.out.2⟩
end Go.Proofs.YtpigmadopflfkaaGreatDoor
