/- The scanning and the check of a whole text of JSON. Condition: it is the text of a plain document. -/
import Derived.Test.YtpigmadopflfkaaGreatDoorScB
namespace Go.Proofs.YtpigmadopflfkaaGreatDoor
open Go.RowKit Go.BigFrame

/-- What scan gives where a document stands. -/
def ScanOk (a : J) : Prop := ∀ (s : ByteArray) (i d : Nat) (w : World), s.size < 1000000 → d + hgt a < 9000 → JOk a → At s i (enc a) → Stop s (i + (enc a).length) →
  Calls Tryz.prog 90 #[.string s, .int .i64 i, .int .i64 d] w fun e w' => e = .returned (.tuple #[.int .i64 (i + (enc a).length : Nat), .nilIface]) ∧ w = w'

/-- The places of a member: its name at p1, the colon at p4, its value at p5, what follows at m. -/
structure Memb (s : ByteArray) (k : Nat) (a : J) (p1 p4 p5 m c : Nat) : Prop where
  key : At s p1 [34, k, 34]
  e4 : p4 = p1 + 3
  e5 : p5 = p4 + 1
  em : m = p5 + (enc a).length
  nb1 : NB s p1
  nb4 : NB s p4
  h4 : ∃ h : p4 < s.size, (s[p4]'h).toNat = 58
  val : At s p5 (enc a)
  hm : ∃ h : m < s.size, (s[m]'h).toNat = c
theorem Memb.of {s : ByteArray} {k p1 c : Nat} {a : J} {r : List Nat} (h : At s p1 (34 :: k :: 34 :: 58 :: (enc a ++ c :: r))) :
    ∃ p4 p5 m, Memb s k a p1 p4 p5 m c ∧ At s (m + 1) r := by
  obtain ⟨hkey, hat2⟩ := At.append (a := [34, k, 34]) (show At s p1 ([34, k, 34] ++ 58 :: (enc a ++ c :: r)) from h)
  obtain ⟨h1, _⟩ := h.cons
  obtain ⟨h4, hat3⟩ := hat2.cons
  obtain ⟨ha, hb⟩ := hat3.append
  obtain ⟨h5, h6⟩ := hb.cons
  exact ⟨p1 + 3, p1 + 3 + 1, p1 + 3 + 1 + (enc a).length, ⟨hkey, rfl, rfl, rfl, nb_of h1 (by decide), nb_of h4 (by decide), h4, ha, h5⟩, h6⟩

set_option maxRecDepth 100000 in
set_option maxHeartbeats 1000000 in
theorem scan_obj1 (k : Nat) (a : J) (ih : ScanOk a) : ScanOk (.obj1 k a) := by
  intro s i d w hs hd hok hat _
  obtain ⟨h0, hat1⟩ := At.cons (show At s i (123 :: 34 :: k :: 34 :: 58 :: (enc a ++ [125])) from hat)
  obtain ⟨hk, hoka⟩ := hok
  obtain ⟨h1, _⟩ := hat1.cons
  obtain ⟨p4, p5, m, M, _⟩ := Memb.of hat1
  obtain ⟨p1, hp1⟩ : ∃ p1, p1 = i + 1 := ⟨_, rfl⟩
  rw [← hp1] at M h1
  have Hnb0 := Hid.mk (nb_of h0 (by decide))
  obtain ⟨h0, h00⟩ := h0
  obtain ⟨h1, h11⟩ := h1
  obtain ⟨h4, h44⟩ := M.h4
  obtain ⟨hm, hmm⟩ := M.hm
  have e7 : ((i : Int) == (s.size : Int)) = false := by simp; omega
  have e8 : ((d : Int) == 10000) = false := by simp; omega
  have e9 : ((p4 : Int) == (s.size : Int)) = false := by simp; omega
  have HM := Hid.mk (And.intro M (And.intro hoka hp1))
  clear hat hat1 hoka M hp1
  go_enter Tryz.func90, Tryz.ntmps90
  go_wp2_with fail
  refine (skip_nb s i _ Hnb0.out).mono ?_
  rintro e w' ⟨rfl, rfl⟩
  go_wp2_with fail
  rw [show (i : Int) + 1 = (p1 : Int) by have := HM.out.2.2; omega]
  refine (skip_nb s p1 _ HM.out.1.nb1).mono ?_
  rintro e w' ⟨rfl, rfl⟩
  go_wp2_with fail
  apply wp_loop_once
  go_wp2_with fail
  refine (skip_nb s p1 _ HM.out.1.nb1).mono ?_
  rintro e w' ⟨rfl, rfl⟩
  go_wp2_with fail
  refine (scanKey_any s k p1 _ hs hk HM.out.1.key).mono ?_
  rintro e w' ⟨rfl, rfl⟩
  rw [← HM.out.1.e4]
  go_wp2_with fail
  refine (skip_nb s p4 _ HM.out.1.nb4).mono ?_
  rintro e w' ⟨rfl, rfl⟩
  go_wp2_with fail
  rw [show (p4 : Int) + 1 = (p5 : Int) by have := HM.out.1.e5; omega, show (d : Int) + 1 = ((d + 1 : Nat) : Int) by simp]
  refine (ih s p5 (d + 1) _ hs (by simp [hgt] at hd; omega) HM.out.2.1 HM.out.1.val (by rw [← HM.out.1.em]; exact Stop.of HM.out.1.hm (by simp))).mono ?_
  rintro e w' ⟨rfl, rfl⟩
  rw [← HM.out.1.em]
  go_wp2_with fail
  refine (skip_nb s m _ (nb_of HM.out.1.hm (by decide))).mono ?_
  rintro e w' ⟨rfl, rfl⟩
  go_wp2_with fail
  go_ret2
  refine ⟨ret_iN ?_, rfl⟩
  have h1 := HM.out.1.e4
  have h2 := HM.out.1.e5
  have h3 := HM.out.1.em
  have h5 := HM.out.2.2
  simp [enc]
  omega

set_option maxRecDepth 100000 in
set_option maxHeartbeats 1000000 in
theorem scan_obj2 (k : Nat) (a : J) (k2 : Nat) (b : J) (ih : ScanOk a) (ihb : ScanOk b) : ScanOk (.obj2 k a k2 b) := by
  intro s i d w hs hd hok hat _
  obtain ⟨h0, hat1⟩ := At.cons (show At s i (123 :: 34 :: k :: 34 :: 58 :: (enc a ++ 44 :: (34 :: k2 :: 34 :: 58 :: (enc b ++ [125])))) from hat)
  obtain ⟨hk, hk2, _, hoka, hokb⟩ := hok
  obtain ⟨h1, _⟩ := hat1.cons
  obtain ⟨p4, p5, m, M, hat2⟩ := Memb.of hat1
  obtain ⟨q1, hq1⟩ : ∃ q1, q1 = m + 1 := ⟨_, rfl⟩
  rw [← hq1] at hat2
  obtain ⟨q4, q5, n, N, _⟩ := Memb.of hat2
  obtain ⟨p1, hp1⟩ : ∃ p1, p1 = i + 1 := ⟨_, rfl⟩
  rw [← hp1] at M h1
  have Hnb0 := Hid.mk (nb_of h0 (by decide))
  obtain ⟨h0, h00⟩ := h0
  obtain ⟨h1, h11⟩ := h1
  have e7 : ((i : Int) == (s.size : Int)) = false := by simp; omega
  have e8 : ((d : Int) == 10000) = false := by simp; omega
  have HM := Hid.mk (And.intro M (And.intro hoka hp1))
  have HN := Hid.mk (And.intro N (And.intro hokb hq1))
  clear hat hat1 hat2 hoka hokb M N hp1 hq1
  go_enter Tryz.func90, Tryz.ntmps90
  go_wp2_with fail
  refine (skip_nb s i _ Hnb0.out).mono ?_
  rintro e w' ⟨rfl, rfl⟩
  go_wp2_with fail
  rw [show (i : Int) + 1 = (p1 : Int) by have := HM.out.2.2; omega]
  refine (skip_nb s p1 _ HM.out.1.nb1).mono ?_
  rintro e w' ⟨rfl, rfl⟩
  go_wp2_with fail
  clear e7 h0 h00 h1 h11 Hnb0
  go_loopg [1, 8] 1 (fun f v er wr => w = wr ∧ er = .nilIface ∧ ((f = 1 ∧ v = .int .i64 p1) ∨ (f = 0 ∧ v = .int .i64 q1)))
  case atStart => exact ⟨rfl, rfl, .inl ⟨rfl, rfl⟩⟩
  case round =>
    obtain ⟨rfl, rfl, ⟨rfl, rfl⟩ | ⟨rfl, rfl⟩⟩ := hrel
    · obtain ⟨h4, h44⟩ := HM.out.1.h4
      obtain ⟨hm, hmm⟩ := HM.out.1.hm
      have e9 : ((p4 : Int) == (s.size : Int)) = false := by simp; omega
      have e10 : ((m : Int) == (s.size : Int)) = false := by simp; omega
      go_wp2_with fail
      refine (skip_nb s p1 _ HM.out.1.nb1).mono ?_
      rintro e w' ⟨rfl, rfl⟩
      go_wp2_with fail
      refine (scanKey_any s k p1 _ hs hk HM.out.1.key).mono ?_
      rintro e w' ⟨rfl, rfl⟩
      rw [← HM.out.1.e4]
      go_wp2_with fail
      refine (skip_nb s p4 _ HM.out.1.nb4).mono ?_
      rintro e w' ⟨rfl, rfl⟩
      go_wp2_with fail
      rw [show (p4 : Int) + 1 = (p5 : Int) by have := HM.out.1.e5; omega, show (d : Int) + 1 = ((d + 1 : Nat) : Int) by simp]
      refine (ih s p5 (d + 1) _ hs (by simp [hgt] at hd; omega) HM.out.2.1 HM.out.1.val (by rw [← HM.out.1.em]; exact Stop.of HM.out.1.hm (by simp))).mono ?_
      rintro e w' ⟨rfl, rfl⟩
      rw [← HM.out.1.em]
      go_wp2_with fail
      refine (skip_nb s m _ (nb_of HM.out.1.hm (by decide))).mono ?_
      rintro e w' ⟨rfl, rfl⟩
      go_wp2_with fail
      go_roundg 0
      case measure => omega
      case rel => exact ⟨rfl, rfl, .inr ⟨rfl, by rw [HN.out.2.2]; simp⟩⟩
    · obtain ⟨h4, h44⟩ := HN.out.1.h4
      obtain ⟨hm, hmm⟩ := HN.out.1.hm
      have e9 : ((q4 : Int) == (s.size : Int)) = false := by simp; omega
      go_wp2_with fail
      refine (skip_nb s q1 _ HN.out.1.nb1).mono ?_
      rintro e w' ⟨rfl, rfl⟩
      go_wp2_with fail
      refine (scanKey_any s k2 q1 _ hs hk2 HN.out.1.key).mono ?_
      rintro e w' ⟨rfl, rfl⟩
      rw [← HN.out.1.e4]
      go_wp2_with fail
      refine (skip_nb s q4 _ HN.out.1.nb4).mono ?_
      rintro e w' ⟨rfl, rfl⟩
      go_wp2_with fail
      rw [show (q4 : Int) + 1 = (q5 : Int) by have := HN.out.1.e5; omega, show (d : Int) + 1 = ((d + 1 : Nat) : Int) by simp]
      refine (ihb s q5 (d + 1) _ hs (by simp [hgt] at hd; omega) HN.out.2.1 HN.out.1.val (by rw [← HN.out.1.em]; exact Stop.of HN.out.1.hm (by simp))).mono ?_
      rintro e w' ⟨rfl, rfl⟩
      rw [← HN.out.1.em]
      go_wp2_with fail
      refine (skip_nb s n _ (nb_of HN.out.1.hm (by decide))).mono ?_
      rintro e w' ⟨rfl, rfl⟩
      go_wp2_with fail
      go_ret2
      refine ⟨ret_iN ?_, rfl⟩
      have h1 := HM.out.1.e4
      have h2 := HM.out.1.e5
      have h3 := HM.out.1.em
      have h5 := HM.out.2.2
      have g1 := HN.out.1.e4
      have g2 := HN.out.1.e5
      have g3 := HN.out.1.em
      have g5 := HN.out.2.2
      simp [enc]
      omega

theorem scan_any (a : J) : ScanOk a := by
  induction a with
  | num x => intro s i d w hs _ hok hat hst; exact scan_num s x i d w hs hok hat hst
  | arr l => intro s i d w hs hd hok hat _; exact scan_arr s l i d w hs (by simp [hgt] at hd; omega) hok hat
  | obj1 k a ih => exact scan_obj1 k a ih
  | obj2 k a m b iha ihb => exact scan_obj2 k a m b iha ihb

set_option maxHeartbeats 400000 in
theorem check_any (a : J) (s : ByteArray) (w : World) (hs : s.size < 1000000) (hh : hgt a < 9000) (hok : JOk a) (hat : At s 0 (enc a)) (hsz : s.size = (enc a).length) :
    Calls Tryz.prog 62 #[.string s] w fun e w' => e = .returned .nilIface ∧ w = w' := by
  have hst : Stop s (0 + (enc a).length) := fun h => by omega
  obtain ⟨n, hn⟩ : ∃ n, n = (enc a).length := ⟨_, rfl⟩
  have Hn := Hid.mk (And.intro hat (And.intro hst hn))
  rw [← hn] at hsz
  subst hsz
  have hnb : NB s s.size := fun h => by omega
  clear hst hn hat
  go_enter Tryz.func62, Tryz.ntmps62
  go_wp2_with fail
  refine (scan_any a s 0 0 _ hs (by omega) hok Hn.out.1 Hn.out.2.1).mono ?_
  rintro e w' ⟨rfl, rfl⟩
  rw [← Hn.out.2.2, Nat.zero_add]
  go_wp2_with fail
  refine (skip_nb s s.size _ hnb).mono ?_
  rintro e w' ⟨rfl, rfl⟩
  go_wp2_with fail
  go_ret
  exact ⟨rfl, rfl⟩
end Go.Proofs.YtpigmadopflfkaaGreatDoor
