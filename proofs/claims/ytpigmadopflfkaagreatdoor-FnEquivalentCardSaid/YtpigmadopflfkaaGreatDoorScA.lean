/- The scanning of blanks and numbers in a text of JSON. Condition: a number of the plain documents stands there. -/
import Derived.Test.YtpigmadopflfkaaGreatDoorJs
namespace Go.Proofs.YtpigmadopflfkaaGreatDoor
open Go.RowKit Go.BigFrame

/-- What stands at i, if anything, is no blank. -/
def NB (s : ByteArray) (i : Nat) : Prop := ∀ h : i < s.size, 32 < (s[i]'h).toNat
theorem Stop.nb {s : ByteArray} {i : Nat} (h : Stop s i) : NB s i := fun hi => by rcases h hi with h | h | h <;> omega
theorem nb_of {s : ByteArray} {i c : Nat} (h : ∃ h : i < s.size, (s[i]'h).toNat = c) (hc : 32 < c) : NB s i := fun hi => by obtain ⟨_, h⟩ := h; omega

set_option maxHeartbeats 400000 in
theorem skip_nb (s : ByteArray) (i : Nat) (w : World) (h : NB s i) :
    Calls Tryz.prog 91 #[.string s, .int .i64 i] w fun e w' => e = .returned (.int .i64 i) ∧ w = w' := by
  by_cases hi : i < s.size
  · have h0 := h hi
    have t1 : ((s[i].toNat : Int) == 32) = false := by simp; omega
    have t2 : ((s[i].toNat : Int) == 10) = false := by simp; omega
    have t3 : ((s[i].toNat : Int) == 13) = false := by simp; omega
    have t4 : ((s[i].toNat : Int) == 9) = false := by simp; omega
    clear h
    go_enter Tryz.func91, Tryz.ntmps91
    go_wp2
    apply wp_loop_once
    go_wp2
    go_ret
    exact ⟨rfl, rfl⟩
  · clear h
    go_enter Tryz.func91, Tryz.ntmps91
    go_wp2
    apply wp_loop_once
    go_wp2
    go_ret
    exact ⟨rfl, rfl⟩

def isDig (c : Nat) : Bool := decide (48 ≤ c ∧ c ≤ 57)
set_option maxHeartbeats 400000 in
theorem digit_yes (s : ByteArray) (i : Nat) (w : World) (hi : i < s.size) (h1 : 48 ≤ s[i].toNat) (h2 : s[i].toNat ≤ 57) :
    Calls Tryz.prog 131 #[.string s, .int .i64 i] w fun e w' => e = .returned (.bool true) ∧ w = w' := by
  have h3 : (48 : Int) ≤ (s[i].toNat : Int) := by omega
  have h4 : (s[i].toNat : Int) ≤ 57 := by omega
  go_enter Tryz.func131, Tryz.ntmps131
  go_wp2
  go_ret
  exact ⟨by simp, rfl⟩
set_option maxHeartbeats 400000 in
theorem digit_no (s : ByteArray) (i : Nat) (w : World) (h : ∀ hi : i < s.size, s[i].toNat < 48 ∨ 57 < s[i].toNat) :
    Calls Tryz.prog 131 #[.string s, .int .i64 i] w fun e w' => e = .returned (.bool false) ∧ w = w' := by
  by_cases hi : i < s.size
  · rcases h hi with h | h
    · have h3 : ¬ (48 : Int) ≤ (s[i].toNat : Int) := by omega
      go_enter Tryz.func131, Tryz.ntmps131
      go_wp2
      go_ret
      exact ⟨rfl, rfl⟩
    · have h3 : ¬ (s[i].toNat : Int) ≤ 57 := by omega
      have h4 : (48 : Int) ≤ (s[i].toNat : Int) := by omega
      go_enter Tryz.func131, Tryz.ntmps131
      go_wp2
      go_ret
      exact ⟨by simp, rfl⟩
  · clear h
    go_enter Tryz.func131, Tryz.ntmps131
    go_wp2
    go_ret
    exact ⟨rfl, rfl⟩

theorem Stop.nodig {s : ByteArray} {i : Nat} (h : Stop s i) : ∀ hi : i < s.size, s[i].toNat < 48 ∨ 57 < s[i].toNat := fun hi => by rcases h hi with h | h | h <;> omega

set_option maxHeartbeats 400000 in
theorem scanDigits_any (s : ByteArray) (ds : List Nat) (i : Nat) (w : World) (hs : s.size < 1000000) (hne : 0 < ds.length) (h9 : ∀ d ∈ ds, d < 10) (hat : At s i (ds.map (48 + ·))) (hst : Stop s (i + ds.length)) :
    Calls Tryz.prog 85 #[.string s, .int .i64 i] w fun e w' => e = .returned (.tuple #[.int .i64 (i + ds.length : Nat), .nilIface]) ∧ w = w' := by
  have hd : ∀ k, k < ds.length → ∃ h : i + k < s.size, 48 ≤ (s[i + k]'h).toNat ∧ (s[i + k]'h).toNat ≤ 57 := by
    intro k hk
    obtain ⟨h1, h2⟩ := hat k (by simpa using hk)
    have := h9 _ (List.getElem_mem hk)
    refine ⟨h1, ?_⟩
    rw [h2]
    simp
    omega
  have Hd := Hid.mk hd
  have Hst := Hid.mk hst
  have hsz : i + ds.length ≤ s.size := by
    obtain ⟨h1, _⟩ := hd (ds.length - 1) (by omega)
    omega
  clear hd hst hat h9
  obtain ⟨h0, h01, h02⟩ := Hd.out 0 hne
  go_enter Tryz.func85, Tryz.ntmps85
  go_wp2_with (go_at_call 131; refine (digit_yes s i _ h0 h01 h02).mono ?_; rintro e w' ⟨rfl, rfl⟩)
  clear h0 h01 h02
  go_loop [1] (fun v => ∃ k : Nat, k ≤ ds.length ∧ v = .int .i64 (i + k : Nat)) (fun v => (i + ds.length) - (intOf v).toNat)
  case atStart => exact ⟨0, by omega, rfl⟩
  case round =>
    obtain ⟨k, hk, rfl⟩ := hrel
    by_cases hlt : k < ds.length
    · obtain ⟨h1, h2, h3⟩ := Hd.out k hlt
      have hb : i + k < 1000000 := by omega
      go_wp2_with (go_at_call 131; refine (digit_yes s (i + k) _ h1 h2 h3).mono ?_; rintro e w' ⟨rfl, rfl⟩)
      exact ⟨⟨k + 1, by omega, by rw [show ((i : Int) + k + 1) = ((i + (k + 1) : Nat) : Int) by omega]⟩, by simp [intOf]; omega⟩
    · obtain rfl : k = ds.length := by omega
      go_wp2_with (go_at_call 131; refine (digit_no s (i + ds.length) _ Hst.out.nodig).mono ?_; rintro e w' ⟨rfl, rfl⟩)
      go_ret2
      exact ⟨rfl, rfl⟩

set_option maxRecDepth 100000 in
set_option maxHeartbeats 1000000 in
theorem scanNum_any (s : ByteArray) (x : Num) (i : Nat) (w : World) (hs : s.size < 1000000) (hx : NumOk x) (hat : At s i (ncodes x)) (hst : Stop s (i + (ncodes x).length)) :
    Calls Tryz.prog 57 #[.string s, .int .i64 i] w fun e w' => e = .returned (.tuple #[.int .i64 (i + (ncodes x).length : Nat), .nilIface]) ∧ w = w' := by
  obtain ⟨neg, ds⟩ := x
  obtain ⟨hpos, hlen, h9, hlead⟩ := hx
  simp only at hpos hlen h9 hlead
  have hatd : At s (i + (if neg then 1 else 0)) (ds.map (48 + ·)) := by
    cases neg
    · exact hat
    · exact hat.cons.2
  have hlenE : (ncodes (neg, ds)).length = (if neg then 1 else 0) + ds.length := by cases neg <;> simp [ncodes]; omega
  have hneg : neg = true → ∃ h : i < s.size, (s[i]'h).toNat = 45 := by
    rintro rfl
    exact hat.cons.1
  clear hat
  rw [hlenE] at hst ⊢
  clear hlenE
  obtain ⟨j, hj⟩ : ∃ j, j = i + (if neg then 1 else 0) := ⟨_, rfl⟩
  rw [← hj] at hatd
  rw [show i + ((if neg then 1 else 0) + ds.length) = j + ds.length by omega] at hst ⊢
  obtain ⟨d0, hd0, hd00⟩ : ∃ d0, (∃ h : j < s.size, (s[j]'h).toNat = 48 + d0) ∧ d0 = ds.getD 0 0 := by
    refine ⟨ds.getD 0 0, ?_, rfl⟩
    obtain ⟨h1, h2⟩ := hatd 0 (by simpa using hpos)
    refine ⟨by simpa using h1, ?_⟩
    simp only [Nat.add_zero] at h2
    rw [h2]
    simp [List.getD_eq_getElem?_getD, hpos]
  obtain ⟨hjs, hdj⟩ := hd0
  have hd9 : d0 < 10 := by rw [hd00]; exact getD_lt h9 0
  have hsz : j + ds.length ≤ s.size := hatd.size (by omega) |> (by simpa using ·)
  have Hl := Hid.mk (And.intro hlead hd00)
  have Hst := Hid.mk hst
  have Hatd := Hid.mk (And.intro hatd h9)
  have hst1 : ∀ h : j + ds.length < s.size, ((s[j + ds.length].toNat : Int) == 46) = false ∧ ((s[j + ds.length].toNat : Int) == 101) = false ∧ ((s[j + ds.length].toNat : Int) == 69) = false := by
    intro h
    rcases hst h with h1 | h1 | h1 <;> rw [h1] <;> exact ⟨rfl, rfl, rfl⟩
  have Hst1 := Hid.mk hst1
  clear hlead hd00 hst hatd h9 hst1
  go_enter Tryz.func57, Tryz.ntmps57
  have hcase : (∃ h : i < s.size, (s[i]'h).toNat = 45 ∧ j = i + 1) ∨ j = i := by
    cases neg
    · exact .inr (by simpa using hj)
    · obtain ⟨h1, h2⟩ := hneg rfl
      exact .inl ⟨h1, h2, by simpa using hj⟩
  have Hcase := Hid.mk hcase
  clear hj hneg hcase
  have his : i < s.size := by rcases Hcase.out with ⟨h, _⟩ | h <;> omega
  go_upto_if 16 with (fail)
  go_cut [1, 16] from 7 to 18 (fun v t wc => v = .int .i64 j ∧ wc = w)
  case first =>
    rcases Hcase.out with ⟨_, h2, h3⟩ | rfl
    · have Hj := Hid.mk h3
      clear h3 hdj
      go_wp2_with fail
      go_meet
      case rel => exact ⟨by rw [Hj.out]; simp, rfl⟩
    · have h1 : ((48 + (d0 : Int)) == 45) = false := by simp; omega
      go_wp2_with fail
      go_meet
      case rel => exact ⟨rfl, rfl⟩
  case rest =>
    obtain ⟨rfl, rfl⟩ := hcut
    by_cases h0 : d0 = 0
    · subst h0
      have hl1 : ds = [0] := by
        rcases Hl.out.1 with h | h
        · exact h
        · exact absurd Hl.out.2.symm h
      subst hl1
      have Hs := Hst1.out
      by_cases hend : j + 1 < s.size
      · obtain ⟨e1, e2, e3⟩ := Hs hend
        have e1 : ((s[j + 1].toNat : Int) == 46) = false := e1
        have e2 : ((s[j + 1].toNat : Int) == 101) = false := e2
        have e3 : ((s[j + 1].toNat : Int) == 69) = false := e3
        clear Hs
        go_wp2_with fail
        go_ret2
        exact ⟨rfl, rfl⟩
      · clear Hs
        go_wp2_with fail
        go_ret2
        exact ⟨rfl, rfl⟩
    · have h1 : ((48 + (d0 : Int)) == 48) = false := by simp; omega
      have Hs := Hst1.out
      by_cases hend : j + ds.length < s.size
      · obtain ⟨e1, e2, e3⟩ := Hs hend
        clear Hs
        go_wp2_with (go_at_call 85; refine (scanDigits_any s ds j _ hs hpos Hatd.out.2 Hatd.out.1 Hst.out).mono ?_; rintro e w' ⟨rfl, rfl⟩)
        go_ret2
        exact ⟨rfl, rfl⟩
      · clear Hs
        go_wp2_with (go_at_call 85; refine (scanDigits_any s ds j _ hs hpos Hatd.out.2 Hatd.out.1 Hst.out).mono ?_; rintro e w' ⟨rfl, rfl⟩)
        go_ret2
        exact ⟨rfl, rfl⟩
end Go.Proofs.YtpigmadopflfkaaGreatDoor
