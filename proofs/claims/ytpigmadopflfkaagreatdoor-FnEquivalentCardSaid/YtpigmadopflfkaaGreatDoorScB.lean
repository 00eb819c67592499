/- The scanning of names in a text of JSON. Condition: a name of one plain letter stands there. -/
import Derived.Test.YtpigmadopflfkaaGreatDoorScA
namespace Go.Proofs.YtpigmadopflfkaaGreatDoor
open Go.RowKit Go.BigFrame

theorem ret_iN {a b : Int} {v : Value} (h : a = b) : Ending.returned (.tuple #[.int .i64 a, v]) = .returned (.tuple #[.int .i64 b, v]) := by rw [h]

set_option maxRecDepth 100000 in
set_option maxHeartbeats 1000000 in
theorem scanKey_any (s : ByteArray) (k i : Nat) (w : World) (hs : s.size < 1000000) (hk : keyOk k) (hat : At s i [34, k, 34]) :
    Calls Tryz.prog 138 #[.string s, .int .i64 i] w fun e w' => e = .returned (.tuple #[.int .i64 (i + 3 : Nat), .nilIface]) ∧ w = w' := by
  obtain ⟨⟨h1, h1'⟩, h⟩ := hat.cons
  obtain ⟨⟨h2, h2'⟩, h⟩ := h.cons
  obtain ⟨⟨h3, h3'⟩, _⟩ := h.cons
  have h3s : i + 1 + 1 < s.size := h3
  obtain ⟨hk1, hk2⟩ := hk
  have t1 : ((k : Int) != 34) = true := by rw [bne_iff_ne]; omega
  have t2 : ((k : Int) != 92) = true := by rw [bne_iff_ne]; omega
  have t0 : ((i : Int) == (s.size : Int)) = false := by simp; omega
  clear hat h
  go_enter Tryz.func138, Tryz.ntmps138
  go_wp2_with fail
  go_loopg [1] 1 (fun f v wr => w = wr ∧ ((f = 1 ∧ v = .int .i64 (i + 1 : Nat)) ∨ (f = 0 ∧ v = .int .i64 (i + 1 + 1 : Nat))))
  case atStart => exact ⟨rfl, .inl ⟨rfl, rfl⟩⟩
  case round =>
    obtain ⟨rfl, ⟨rfl, rfl⟩ | ⟨rfl, rfl⟩⟩ := hrel
    · go_wp2_with fail
      go_roundg 0
      case measure => omega
      case rel => exact ⟨rfl, .inr ⟨rfl, rfl⟩⟩
    · go_wp2_with fail
      go_ret2
      exact ⟨ret_iN (by omega), rfl⟩

theorem Stop.of {s : ByteArray} {i c : Nat} (h : ∃ h : i < s.size, (s[i]'h).toNat = c) (hc : c = 44 ∨ c = 93 ∨ c = 125) : Stop s i := fun hi => by obtain ⟨_, h⟩ := h; rw [h]; exact hc

theorem ncodes_head {x : Num} (hx : NumOk x) : ∃ c r, ncodes x = c :: r ∧ (c = 45 ∨ 48 ≤ c ∧ c < 58) := by
  obtain ⟨neg, ds⟩ := x
  cases neg
  · cases ds with
    | nil => exact absurd hx.pos (by simp)
    | cons d r => exact ⟨48 + d, r.map (48 + ·), rfl, .inr ⟨by omega, by have := hx.nine d (by simp); omega⟩⟩
  · exact ⟨45, ds.map (48 + ·), rfl, .inl rfl⟩

set_option maxRecDepth 100000 in
set_option maxHeartbeats 1000000 in
theorem scan_num (s : ByteArray) (x : Num) (i d : Nat) (w : World) (hs : s.size < 1000000) (hx : NumOk x) (hat : At s i (ncodes x)) (hst : Stop s (i + (ncodes x).length)) :
    Calls Tryz.prog 90 #[.string s, .int .i64 i, .int .i64 d] w fun e w' => e = .returned (.tuple #[.int .i64 (i + (ncodes x).length : Nat), .nilIface]) ∧ w = w' := by
  obtain ⟨c, r, hc, hc2⟩ := ncodes_head hx
  have h1 := hat
  rw [hc] at h1
  obtain ⟨⟨h2, h3⟩, _⟩ := h1.cons
  have hnb : NB s i := nb_of ⟨h2, h3⟩ (by omega)
  have e1 : ((c : Int) == 123) = false := by simp; omega
  have e2 : ((c : Int) == 91) = false := by simp; omega
  have e3 : ((c : Int) == 34) = false := by simp; omega
  have e4 : ((c : Int) == 116) = false := by simp; omega
  have e5 : ((c : Int) == 102) = false := by simp; omega
  have e6 : ((c : Int) == 110) = false := by simp; omega
  have e7 : ((i : Int) == (s.size : Int)) = false := by simp; omega
  have H := Hid.mk (And.intro hx (And.intro hat (And.intro hst hnb)))
  clear hx hat hst hnb hc hc2 h1
  go_enter Tryz.func90, Tryz.ntmps90
  go_wp2_with (first | (go_at_call 91; refine (skip_nb s i _ H.out.2.2.2).mono ?_; rintro e w' ⟨rfl, rfl⟩) | (go_at_call 57; refine (scanNum_any s x i _ hs H.out.1 H.out.2.1 H.out.2.2.1).mono ?_; rintro e w' ⟨rfl, rfl⟩))
  go_ret2
  exact ⟨rfl, rfl⟩

theorem encL_cons {x : Num} {r : List Num} (h : r ≠ []) : encL (x :: r) = ncodes x ++ 44 :: encL r := by
  cases r with
  | nil => exact absurd rfl h
  | cons y r => rfl

set_option maxRecDepth 100000 in
set_option maxHeartbeats 1000000 in
theorem scan_arr (s : ByteArray) (l : List Num) (i d : Nat) (w : World) (hs : s.size < 1000000) (hd : d < 9000) (hl : ∀ x ∈ l, NumOk x) (hat : At s i (enc (.arr l))) :
    Calls Tryz.prog 90 #[.string s, .int .i64 i, .int .i64 d] w fun e w' => e = .returned (.tuple #[.int .i64 (i + (enc (.arr l)).length : Nat), .nilIface]) ∧ w = w' := by
  obtain ⟨h0, hat1⟩ := At.cons (show At s i (91 :: (encL l ++ [93])) from hat)
  have hnb : NB s i := nb_of h0 (by decide)
  obtain ⟨h0, h00⟩ := h0
  have e7 : ((i : Int) == (s.size : Int)) = false := by simp; omega
  have e8 : ((d : Int) == 10000) = false := by simp; omega
  have Hnb := Hid.mk hnb
  have Hl := Hid.mk hl
  clear hat hnb hl
  rcases l with _ | ⟨x, r⟩
  · obtain ⟨h1, _⟩ := hat1.cons
    have Hnb1 := Hid.mk (nb_of h1 (by decide))
    obtain ⟨h1, h11⟩ := h1
    have e9 : i + 1 < s.size := h1
    clear hat1
    go_enter Tryz.func90, Tryz.ntmps90
    go_wp2_with fail
    refine (skip_nb s i _ Hnb.out).mono ?_
    rintro e w' ⟨rfl, rfl⟩
    go_wp2_with fail
    rw [show (i : Int) + 1 = ((i + 1 : Nat) : Int) by simp]
    refine (skip_nb s (i + 1) _ Hnb1.out).mono ?_
    rintro e w' ⟨rfl, rfl⟩
    go_wp2_with fail
    go_ret2
    exact ⟨ret_iN (by simp [enc, encL]; omega), rfl⟩
  · have hx0 : NumOk x := Hl.out x (by simp)
    obtain ⟨c, rr, hc, hc2⟩ := ncodes_head hx0
    obtain ⟨q, hq⟩ : ∃ q, encL (x :: r) ++ [93] = c :: q := by
      cases r with
      | nil => exact ⟨rr ++ [93], by simp [encL, hc]⟩
      | cons y r => exact ⟨rr ++ 44 :: encL (y :: r) ++ [93], by simp [encL, hc]⟩
    have h1 := hat1
    rw [hq] at h1
    obtain ⟨h1, _⟩ := h1.cons
    have Hnb1 := Hid.mk (nb_of h1 (by omega))
    obtain ⟨h1, h11⟩ := h1
    have e9 : i + 1 < s.size := h1
    have e10 : ((c : Int) == 93) = false := by simp; omega
    have Hat1 := Hid.mk hat1
    clear hat1 hc hq
    go_enter Tryz.func90, Tryz.ntmps90
    go_wp2_with fail
    refine (skip_nb s i _ Hnb.out).mono ?_
    rintro e w' ⟨rfl, rfl⟩
    go_wp2_with fail
    rw [show (i : Int) + 1 = ((i + 1 : Nat) : Int) by simp]
    refine (skip_nb s (i + 1) _ Hnb1.out).mono ?_
    rintro e w' ⟨rfl, rfl⟩
    go_wp2_with fail
    clear e7 e8 e9 e10 h11 h1 hc2
    go_loopg [1, 8] (x :: r).length (fun f v er wr => w = wr ∧ er = .nilIface ∧ ∃ (j : Nat) (y : Num) (t : List Num), v = .int .i64 j ∧ f = (y :: t).length ∧ At s j (encL (y :: t) ++ [93]) ∧ j + (encL (y :: t) ++ [93]).length = i + (enc (.arr (x :: r))).length ∧ ∀ z ∈ y :: t, NumOk z)
    case atStart => exact ⟨rfl, rfl, i + 1, x, r, by simp, rfl, Hat1.out, by simp [enc]; omega, Hl.out⟩
    case round =>
      obtain ⟨rfl, rfl, j, y, t, rfl, hf, hat, hj, hok⟩ := hrel
      have Hj := Hid.mk (And.intro hj hf)
      have Hok := Hid.mk hok
      clear hj hok hf
      rcases t with _ | ⟨z, t⟩
      · obtain ⟨ha, hb⟩ := At.append (show At s j (ncodes y ++ [93]) from hat)
        obtain ⟨hb, _⟩ := hb.cons
        have Hst := Hid.mk (Stop.of hb (by simp))
        have Ha := Hid.mk ha
        obtain ⟨m, hm⟩ : ∃ m, m = j + (ncodes y).length := ⟨_, rfl⟩
        rw [← hm] at hb
        have Hnb2 := Hid.mk (nb_of hb (by decide))
        obtain ⟨hb1, hb2⟩ := hb
        have Hm := Hid.mk hm
        have hms : (m : Int) < (s.size : Int) := by omega
        clear ha hat hm
        go_wp2_with fail
        refine (scan_num s y j (d + 1) _ hs (Hok.out y (by simp)) Ha.out Hst.out).mono ?_
        rintro e w' ⟨rfl, rfl⟩
        rw [← Hm.out]
        go_wp2_with fail
        refine (skip_nb s m _ Hnb2.out).mono ?_
        rintro e w' ⟨rfl, rfl⟩
        go_wp2_with fail
        go_ret2
        refine ⟨ret_iN ?_, rfl⟩
        have h1 := Hj.out.1
        have h2 := Hm.out
        simp [encL] at h1
        omega
      · rw [encL_cons (List.cons_ne_nil z t), List.append_assoc] at hat
        obtain ⟨ha, hb⟩ := hat.append
        obtain ⟨hb, hc⟩ := At.cons (show At s _ (44 :: (encL (z :: t) ++ [93])) from hb)
        have Hst := Hid.mk (Stop.of hb (by simp))
        have Ha := Hid.mk ha
        obtain ⟨m, hm⟩ : ∃ m, m = j + (ncodes y).length := ⟨_, rfl⟩
        rw [← hm] at hb hc
        have Hnb2 := Hid.mk (nb_of hb (by decide))
        obtain ⟨hb1, hb2⟩ := hb
        have Hm := Hid.mk hm
        have Hc := Hid.mk hc
        have hms : (m : Int) < (s.size : Int) := by omega
        have hme : ((m : Int) == (s.size : Int)) = false := by simp; omega
        clear ha hat hm hc
        go_wp2_with fail
        refine (scan_num s y j (d + 1) _ hs (Hok.out y (by simp)) Ha.out Hst.out).mono ?_
        rintro e w' ⟨rfl, rfl⟩
        rw [← Hm.out]
        go_wp2_with fail
        refine (skip_nb s m _ Hnb2.out).mono ?_
        rintro e w' ⟨rfl, rfl⟩
        go_wp2_with fail
        go_roundg (z :: t).length
        case measure => have := Hj.out.2; simp at this ⊢; omega
        case rel =>
          refine ⟨rfl, rfl, m + 1, z, t, rfl, rfl, Hc.out, ?_, fun u hu => Hok.out u (by simp at hu ⊢; exact .inr hu)⟩
          have h1 := Hj.out.1
          have h2 := Hm.out
          rw [encL_cons (List.cons_ne_nil z t)] at h1
          simp at h1 ⊢
          omega
end Go.Proofs.YtpigmadopflfkaaGreatDoor
