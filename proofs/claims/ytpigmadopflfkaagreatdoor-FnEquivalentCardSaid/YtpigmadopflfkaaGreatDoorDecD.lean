/- decimal.digit, nearUp, whole and shift compute what their mirror functions say. Condition: the decimal lies in the memory as a row of digits. -/
import Derived.Test.YtpigmadopflfkaaGreatDoorDecC
namespace Go.Proofs.YtpigmadopflfkaaGreatDoor
open Go.RowKit Go.BigFrame

theorem Dec.opened {B : Nat} {w : World} {b : Nat} {ds : List Nat} {dp : Int} (hd : Dec B w b ds dp) : ∃ a cap,
    (∀ i, w.cell? ⟨b, i, none⟩ = (#[.slice a ds.length cap, .int .i64 dp] : Array Value)[i]?) ∧ (∀ i, w.frozen? ⟨b, i, none⟩ = false) ∧ ds.length ≤ cap ∧ cap ≤ 9223372036854775807 ∧ b < w.heap.size ∧
    (∀ i, i < ds.length → ∃ g x, a = some ⟨g, 0, none⟩ ∧ w.cell? ⟨g, i, none⟩ = some (dig x) ∧ x < 10 ∧ x = ds.getD i 0 ∧ g ≠ b) := by
  obtain ⟨a, cap, hb, ho, hne, hd9⟩ := hd
  refine ⟨a, cap, blk_cell hb, blk_frozen hb, (own_cap ho).1, (own_cap ho).2, lt_of_heap hb, ?_⟩
  intro i hi
  obtain ⟨g, rfl, _, _, h⟩ := own_some ho (by omega)
  refine ⟨g, ds.getD i 0, rfl, h i _ (by simp [hi]), ?_, rfl, hne _ rfl⟩
  simp only [List.getD_eq_getElem?_getD, List.getElem?_eq_getElem hi, Option.getD_some]
  exact hd9 _ (List.getElem_mem hi)

theorem ret_dig {a b : Nat} (h : a = b) : Ending.returned (dig a) = .returned (.int .u8 (b : Int)) := by rw [h]
theorem ret_bool {a b : Bool} (h : a = b) : Ending.returned (.bool a) = .returned (.bool b) := by rw [h]

set_option maxHeartbeats 400000 in
theorem digit_any (B b : Nat) (ds : List Nat) (dp : Int) (i : Nat) (w : World) (hd : Dec B w b ds dp) :
    Calls Tryz.prog 175 #[.pointer (some ⟨b, 0, none⟩), .int .i64 i] w fun e w' => e = .returned (.int .u8 (ds.getD i 0 : Nat)) ∧ w = w' := by
  obtain ⟨a, cap, hc, hf, hcap, hcap2, hbl, hcells⟩ := hd.opened
  clear hd
  by_cases hlt : i < ds.length
  · obtain ⟨g, x, rfl, hx, hx9, hxx, _⟩ := hcells i hlt
    have Hxx := Hid.mk hxx
    clear hcells hxx
    go_enter Tryz.func175, Tryz.ntmps175
    go_wp2
    go_ret
    exact ⟨ret_dig Hxx.out, rfl⟩
  · clear hcells
    go_enter Tryz.func175, Tryz.ntmps175
    go_wp2
    go_ret
    exact ⟨ret_dig (getD_out (by omega)).symm, rfl⟩

def nearF (ds : List Nat) (n : Nat) : Bool :=
  if ds.length ≤ n then false
  else if ds.getD n 0 = 5 ∧ n + 1 = ds.length then (if 0 < n then decide (ds.getD (n - 1) 0 % 2 = 1) else false)
  else decide (5 ≤ ds.getD n 0)

set_option maxHeartbeats 400000 in
theorem nearUp_any (B b : Nat) (ds : List Nat) (dp : Int) (n : Nat) (w : World) (hi : n < 1000000) (hd : Dec B w b ds dp) :
    Calls Tryz.prog 174 #[.pointer (some ⟨b, 0, none⟩), .int .i64 n] w fun e w' => e = .returned (.bool (nearF ds n)) ∧ w = w' := by
  obtain ⟨a, cap, hc, hf, hcap, hcap2, hbl, hcells⟩ := hd.opened
  clear hd
  by_cases hlt : n < ds.length
  · obtain ⟨g, x, rfl, hx, hx9, hxx, _⟩ := hcells n hlt
    have Hxx := Hid.mk hxx
    have Hcells := Hid.mk hcells
    clear hcells hxx
    by_cases h5 : x = 5 ∧ n + 1 = ds.length
    · obtain ⟨h5, h6⟩ := h5
      subst h5
      replace hx : w.cell? ⟨g, n, none⟩ = some (.int .u8 5) := hx
      have e1 : (((n : Int) + 1) == (ds.length : Int)) = true := by simp; omega
      have H6 := Hid.mk h6
      clear h6
      by_cases hn : 0 < n
      · obtain ⟨g', y, hg', hy, hy9, hyy, _⟩ := Hcells.out (n - 1) (by omega)
        cases hg'
        have Hyy := Hid.mk hyy
        clear hyy
        have hcast : ((n : Int) - 1) = ((n - 1 : Nat) : Int) := by omega
        obtain ⟨m, rfl⟩ : ∃ m, n = m + 1 := ⟨n - 1, by omega⟩
        replace hy : w.cell? ⟨g, m, none⟩ = some (dig y) := hy
        have hy2 : ((y : Int) % 2 != 0) = decide (y % 2 = 1) := by
          have := Nat.mod_two_eq_zero_or_one y
          rcases this with h | h
          · have : ((y : Int) % 2) = 0 := by omega
            rw [this, h]; rfl
          · have : ((y : Int) % 2) = 1 := by omega
            rw [this, h]; rfl
        go_enter Tryz.func174, Tryz.ntmps174
        go_wp2
        go_ret
        refine ⟨ret_bool ?_, rfl⟩
        rw [nearF, if_neg (by omega), if_pos ⟨Hxx.out.symm, H6.out⟩, if_pos hn]
        have e := Hyy.out
        rw [Nat.add_sub_cancel] at e ⊢
        rw [← e]
      · obtain rfl : n = 0 := by omega
        replace e1 : ((1 : Int) == (ds.length : Int)) = true := by simpa using e1
        have hne : ¬ ds = [] := by rintro rfl; simp at hlt
        go_enter Tryz.func174, Tryz.ntmps174
        go_wp2
        go_ret
        refine ⟨ret_bool ?_, rfl⟩
        rw [nearF, if_neg (by omega), if_pos ⟨Hxx.out.symm, H6.out⟩, if_neg hn]
    · have hres : nearF ds n = decide (5 ≤ x) := by
        rw [nearF, if_neg (by omega), if_neg (by rw [← Hxx.out]; exact h5), ← Hxx.out]
      have Hres := Hid.mk hres
      clear hres
      by_cases hx5 : x = 5
      · subst hx5
        replace hx : w.cell? ⟨g, n, none⟩ = some (.int .u8 5) := hx
        have e1 : (((n : Int) + 1) == (ds.length : Int)) = false := by simp; omega
        clear h5
        go_enter Tryz.func174, Tryz.ntmps174
        go_wp2
        go_ret
        exact ⟨ret_bool (by rw [Hres.out]; rfl), rfl⟩
      · have e0 : ((x : Int) == 5) = false := by simp; omega
        clear h5
        go_enter Tryz.func174, Tryz.ntmps174
        go_wp2
        go_ret
        refine ⟨ret_bool ?_, rfl⟩
        rw [Hres.out]
        first | rfl | (simp; done) | (simp; omega)
  · clear hcells
    go_enter Tryz.func174, Tryz.ntmps174
    go_wp2
    go_ret
    exact ⟨ret_bool (by rw [nearF, if_pos (by omega)]), rfl⟩

def wholeA (ds : List Nat) : Nat → Nat → Nat → Option Nat
  | 0, _, n => some n
  | c + 1, i, n => if n < 900000000000000000 then wholeA ds c (i + 1) (n * 10 + ds.getD i 0) else none
def wholeF (ds : List Nat) (dp : Nat) : Option Nat := (wholeA ds dp 0 0).bind fun n => some (if nearF ds dp then n + 1 else n)
theorem wholeF_go {ds : List Nat} {dp : Nat} {r : Nat} (h : wholeF ds dp = some r) : ∃ n, wholeA ds dp 0 0 = some n ∧ r = if nearF ds dp then n + 1 else n := by
  unfold wholeF at h
  cases hh : wholeA ds dp 0 0 with
  | none => rw [hh] at h; cases h
  | some n => rw [hh] at h; simp only [Option.bind_some, Option.some.injEq] at h; exact ⟨n, rfl, h.symm⟩
theorem getD_lt {ds : List Nat} (h : ∀ d ∈ ds, d < 10) (i : Nat) : ds.getD i 0 < 10 := by
  rw [List.getD_eq_getElem?_getD]
  by_cases hi : i < ds.length
  · rw [List.getElem?_eq_getElem hi]; exact h _ (List.getElem_mem _)
  · rw [List.getElem?_eq_none (by omega)]; decide

set_option maxHeartbeats 400000 in
theorem whole_any (B b : Nat) (ds : List Nat) (dp : Nat) (w : World) (hi : dp < 1000) (hd : Dec B w b ds dp) (r : Nat) (hF : wholeF ds dp = some r) :
    Calls Tryz.prog 185 #[.pointer (some ⟨b, 0, none⟩)] w fun e w' => e = .returned (.int .u64 r) ∧ w = w' := by
  obtain ⟨n0, hA, hr⟩ := wholeF_go hF
  obtain ⟨a, cap, hc, hf, hcap, hcap2, hbl, hcells⟩ := hd.opened
  clear hcells hF
  have HA := Hid.mk hA
  have Hr := Hid.mk hr
  have Hd := Hid.mk hd
  clear hA hr hd
  go_enter Tryz.func185, Tryz.ntmps185
  go_wp2
  go_loopg [3, 4] dp (fun f n i wr => w = wr ∧ ∃ (n1 i1 : Nat), n = .int .u64 n1 ∧ i = .int .i64 i1 ∧ i1 + f = dp ∧ n1 < 9000000000000000010 ∧ wholeA ds f i1 n1 = some n0)
  case atStart => exact ⟨rfl, 0, 0, rfl, rfl, by omega, by decide, HA.out⟩
  case round =>
    obtain ⟨rfl, n1, i1, rfl, rfl, hif, hn9, hA1⟩ := hrel
    have HA1 := Hid.mk hA1
    have Hif := Hid.mk hif
    have hi1 : i1 ≤ dp := by omega
    clear hA1 hif
    by_cases hlt : i1 < dp
    · obtain ⟨f, rfl⟩ : ∃ f, gk = f + 1 := ⟨gk - 1, by have := Hif.out; omega⟩
      have hg : n1 < 900000000000000000 := by
        refine Decidable.byContradiction fun hno => ?_
        have := HA1.out
        rw [wholeA, if_neg hno] at this
        cases this
      obtain ⟨x, hx⟩ : ∃ x, x = ds.getD i1 0 := ⟨_, rfl⟩
      have hx9 : x < 10 := by
        obtain ⟨_, _, _, _, _, h9⟩ := Hd.out
        rw [hx]; exact getD_lt h9 _
      have Hx := Hid.mk hx
      clear hx
      go_wp2_with (go_at_call 175; refine (digit_any B b ds dp i1 _ Hd.out).mono ?_; rw [← Hx.out]; rintro e w' ⟨rfl, rfl⟩)
      go_roundg f
      case measure => omega
      case rel =>
        refine ⟨rfl, n1 * 10 + x, i1 + 1, rfl, rfl, by have := Hif.out; omega, by omega, ?_⟩
        have := HA1.out
        rw [wholeA, if_pos hg, ← Hx.out] at this
        exact this
    · obtain rfl : gk = 0 := by have := Hif.out; omega
      have hn : n1 = n0 := by have := HA1.out; rw [wholeA] at this; simpa using this
      have Hn := Hid.mk hn
      clear hn
      cases hb : nearF ds dp with
      | true =>
        have Hb := Hid.mk hb
        clear hb
        go_wp2_with (go_at_call 174; refine (nearUp_any B b ds dp dp _ (by omega) Hd.out).mono ?_; rw [Hb.out]; rintro e w' ⟨rfl, rfl⟩)
        go_ret
        exact ⟨ret_int (by rw [Hr.out, Hb.out, Hn.out]; simp), rfl⟩
      | false =>
        have Hb := Hid.mk hb
        clear hb
        go_wp2_with (go_at_call 174; refine (nearUp_any B b ds dp dp _ (by omega) Hd.out).mono ?_; rw [Hb.out]; rintro e w' ⟨rfl, rfl⟩)
        go_ret
        exact ⟨ret_int (by rw [Hr.out, Hb.out, Hn.out]; simp), rfl⟩

set_option maxHeartbeats 400000 in
theorem shift_pos (B b : Nat) (ds : List Nat) (k : Nat) (dp : Int) (w : World) (hB : B ≤ w.heap.size) (hk0 : 0 < k) (hk : k ≤ 59) (hl : ds.length < 1000000) (h1 : -1000000 ≤ dp) (h2 : dp ≤ 1000000) (hd : Dec B w b ds dp) (es : List Nat) (q : Int) (hF : dblF k ds dp = some (es, q)) :
    Calls Tryz.prog 126 #[.pointer (some ⟨b, 0, none⟩), .int .i64 k] w fun e w' =>
      e = .returned (.tuple #[]) ∧ Dec B w' b es q ∧ Kp [b] w w' := by
  have HF := Hid.mk hF
  have Hd := Hid.mk hd
  clear hF hd
  go_enter Tryz.func126, Tryz.ntmps126
  go_wp2
  apply wp_loop_once
  go_wp2
  apply wp_loop_once
  go_wp2_with (go_at_call 169; refine (double_any B b ds k dp _ hB hk hl h1 h2 Hd.out es q HF.out).mono ?_; rintro e w' ⟨rfl, hq⟩)
  exact bodyPost_end (results_none rfl _ _ _) rfl ⟨rfl, hq⟩

set_option maxHeartbeats 400000 in
theorem shift_neg (B b : Nat) (ds : List Nat) (k : Nat) (dp : Int) (w : World) (hB : B ≤ w.heap.size) (hk0 : 0 < k) (hk : k ≤ 59) (hl : ds.length < 1000000) (h1 : -1000000 ≤ dp) (h2 : dp ≤ 1000000) (hd : Dec B w b ds dp) (es : List Nat) (q : Int) (hF : halfF k ds dp = some (es, q)) :
    Calls Tryz.prog 126 #[.pointer (some ⟨b, 0, none⟩), .int .i64 (-(k : Int))] w fun e w' =>
      e = .returned (.tuple #[]) ∧ Dec B w' b es q ∧ Kp [b] w w' := by
  have HF := Hid.mk hF
  have Hd := Hid.mk hd
  clear hF hd
  go_enter Tryz.func126, Tryz.ntmps126
  go_wp2
  apply wp_loop_once
  go_wp2
  apply wp_loop_once
  go_wp2_with (go_at_call 170; refine (half_any B b ds k dp _ hB hk hl h1 h2 Hd.out es q HF.out).mono ?_; rintro e w' ⟨rfl, hq⟩)
  exact bodyPost_end (results_none rfl _ _ _) rfl ⟨rfl, hq⟩
end Go.Proofs.YtpigmadopflfkaaGreatDoor
