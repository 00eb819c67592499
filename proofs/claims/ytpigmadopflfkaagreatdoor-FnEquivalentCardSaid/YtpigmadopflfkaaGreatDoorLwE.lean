/- The law's functions digits, joined and list write what the documents hold. Condition: numbers between -999 and 999. -/
import Derived.Test.YtpigmadopflfkaaGreatDoorNvA
namespace Go.Proofs.YtpigmadopflfkaaGreatDoor
open Go.RowKit Go.BigFrame
theorem slice_dig (n : Nat) (hn : n < 10) (w : World) : (Instr.slice 9 (Value.string { data := #[48, 49, 50, 51, 52, 53, 54, 55, 56, 57] }) (some (Value.int IntKind.i64 n)) (some (Value.int IntKind.i64 ((n : Int) + 1))) none).run Tryz.prog w = .ok (.string (txt [48 + n])) w := by
  obtain rfl | rfl | rfl | rfl | rfl | rfl | rfl | rfl | rfl | rfl : n = 0 ∨ n = 1 ∨ n = 2 ∨ n = 3 ∨ n = 4 ∨ n = 5 ∨ n = 6 ∨ n = 7 ∨ n = 8 ∨ n = 9 := by omega
  all_goals kernel_rfl
set_option maxRecDepth 100000 in
set_option maxHeartbeats 1000000 in
theorem digits_one (n : Nat) (hn : n < 10) (w : World) : Calls Tryz.prog 6 #[.int .i64 n] w fun e w' => e = .returned (.string (txt [48 + n])) ∧ w = w' := by
  have h1 : ((n : Int) < 10) := by omega
  have hsl := slice_dig n hn w
  go_enter Tryz.func6, Tryz.ntmps6
  go_wp2_with fail
  go_ret
  exact ⟨rfl, rfl⟩
end Go.Proofs.YtpigmadopflfkaaGreatDoor

namespace Go.Proofs.YtpigmadopflfkaaGreatDoor
open Go.RowKit Go.BigFrame
theorem txt_app (a b : List Nat) : txt a ++ txt b = txt (a ++ b) := by
  apply ByteArray.ext
  simp [txt]
set_option maxRecDepth 100000 in
set_option maxHeartbeats 1000000 in
theorem digits_more (n q r : Nat) (cs : List Nat) (hcs : cs.length < 1000) (hn : 10 ≤ n) (hn2 : n < 1000) (hq : n / 10 = q) (hr : n % 10 = r) (ih : ∀ w, Calls Tryz.prog 6 #[.int .i64 q] w fun e w' => e = .returned (.string (txt cs)) ∧ ∃ k, w' = w.drewN k) (w : World) :
    Calls Tryz.prog 6 #[.int .i64 n] w fun e w' => e = .returned (.string (txt (cs ++ [48 + r]))) ∧ ∃ k, w' = w.drewN k := by
  have h1 : ¬ ((n : Int) < 10) := by omega
  have h2 : ¬ ((n : Int) < 0) := by omega
  have e1 : (n : Int) / 10 = (q : Int) := by omega
  have e2 : (n : Int).tmod 10 = (r : Int) := by rw [Int.tmod_eq_emod_of_nonneg (by omega)]; omega
  have e3 : IntKind.i64.wrap (q : Int) = (q : Int) := IntWalk.i64_in _ (by omega)
  have e4 : IntKind.i64.wrap (r : Int) = (r : Int) := IntWalk.i64_in _ (by omega)
  have e5 : IntKind.i64.wrap ((r : Int) + 1) = (r : Int) + 1 := IntWalk.i64_in _ (by omega)
  have hsl := fun W => slice_dig r (by omega) W
  have hadd : ∀ W, (Op.stringOp .add (txt cs) (txt [48 + r])).run Tryz.prog W = .ok (.string (txt (cs ++ [48 + r]))) W := fun W => (run_string_add_sum (P := Tryz.prog) (w := W) (txt cs) (txt [48 + r]) (by rw [txt_size, txt_size]; simp; omega)).trans (by rw [txt_app])
  have Hih := Hid.mk ih
  clear hq hr ih
  go_enter Tryz.func6, Tryz.ntmps6
  go_wp2_with fail
  go_quiet ((go_at_call 6; exact (Hih.out _).mono fun _ _ h => by obtain ⟨h1, j, h2⟩ := h; exact ⟨h1, _, h2.trans (by rw [World.drewN_drewN])⟩))
  go_wp2_with fail
  go_ret
  exact ⟨rfl, nq, rfl⟩
end Go.Proofs.YtpigmadopflfkaaGreatDoor

namespace Go.Proofs.YtpigmadopflfkaaGreatDoor
open Go.RowKit Go.BigFrame
theorem digits_pos (n : Nat) (hn : n < 1000) (w : World) : Calls Tryz.prog 6 #[.int .i64 n] w fun e w' => e = .returned (.string (txt ((digs n).map (48 + ·)))) ∧ ∃ k, w' = w.drewN k := by
  have hone : ∀ m, m < 10 → ∀ w, Calls Tryz.prog 6 #[.int .i64 (m : Nat)] w fun e w' => e = .returned (.string (txt [48 + m])) ∧ ∃ k, w' = w.drewN k := fun m hm w => by
    refine (digits_one m hm w).mono ?_
    rintro e w' ⟨rfl, rfl⟩
    exact ⟨rfl, 0, rfl⟩
  have htwo : ∀ m, 10 ≤ m → m < 100 → ∀ w, Calls Tryz.prog 6 #[.int .i64 (m : Nat)] w fun e w' => e = .returned (.string (txt [48 + m / 10, 48 + m % 10])) ∧ ∃ k, w' = w.drewN k := fun m h1 h2 w =>
    digits_more m (m / 10) (m % 10) [48 + m / 10] (by simp) h1 (by omega) rfl rfl (hone (m / 10) (by omega)) w
  unfold digs
  by_cases h1 : n < 10
  · rw [if_pos h1]; exact hone n h1 w
  · rw [if_neg h1]
    by_cases h2 : n < 100
    · rw [if_pos h2]; exact htwo n (by omega) h2 w
    · rw [if_neg h2]
      have h := digits_more n (n / 10) (n % 10) _ (by simp) (by omega) hn rfl rfl (htwo (n / 10) (by omega) (by omega)) w
      have e1 : n / 10 / 10 = n / 100 := by omega
      rw [e1] at h
      exact h
end Go.Proofs.YtpigmadopflfkaaGreatDoor

namespace Go.Proofs.YtpigmadopflfkaaGreatDoor
open Go.RowKit Go.BigFrame
set_option maxRecDepth 100000 in
set_option maxHeartbeats 1000000 in
theorem digits_neg1 (n : Nat) (h0 : 0 < n) (hn : n < 10) (w : World) : Calls Tryz.prog 6 #[.int .i64 (-(n : Int))] w fun e w' => e = .returned (.string (txt (45 :: [48 + n]))) ∧ w = w' := by
  have h1 : (-(n : Int) < 0) := by omega
  have h2 : (-10 < -(n : Int)) := by omega
  have hadd : ∀ W, (Op.stringOp .add { data := #[45] } (txt [48 + n])).run Tryz.prog W = .ok (.string (txt (45 :: [48 + n]))) W := fun W => (run_string_add_sum (P := Tryz.prog) (w := W) (txt [45]) (txt [48 + n]) (by rw [txt_size, txt_size]; simp)).trans (by rw [txt_app]; rfl)
  have e1 : IntKind.i64.wrap (n : Int) = (n : Int) := IntWalk.i64_in _ (by omega)
  go_enter Tryz.func6, Tryz.ntmps6
  go_wp2_with fail
  refine (digits_one n hn w).mono ?_
  rintro e w' ⟨rfl, rfl⟩
  go_wp2_with fail
  go_ret
  exact ⟨rfl, rfl⟩
set_option maxRecDepth 100000 in
set_option maxHeartbeats 1000000 in
theorem digits_negm (n q r : Nat) (cs : List Nat) (hcs : cs.length < 1000) (hn : 10 ≤ n) (hn2 : n < 1000) (hq : n / 10 = q) (hr : n % 10 = r) (ih : ∀ w, Calls Tryz.prog 6 #[.int .i64 (-(q : Int))] w fun e w' => e = .returned (.string (txt cs)) ∧ w = w') (w : World) :
    Calls Tryz.prog 6 #[.int .i64 (-(n : Int))] w fun e w' => e = .returned (.string (txt (cs ++ [48 + r]))) ∧ w = w' := by
  have h1 : (-(n : Int) < 0) := by omega
  have h2 : ¬ (-10 < -(n : Int)) := by omega
  have e1 : (-(n : Int)).tdiv 10 = -(q : Int) := by rw [Int.neg_tdiv, Int.tdiv_eq_ediv_of_nonneg (by omega)]; omega
  have e2 : (-(n : Int)).tmod 10 = -(r : Int) := by rw [Int.neg_tmod, Int.tmod_eq_emod_of_nonneg (by omega)]; omega
  have e3 : IntKind.i64.wrap (-(q : Int)) = -(q : Int) := IntWalk.i64_in _ (by omega)
  have e4 : IntKind.i64.wrap (-(r : Int)) = -(r : Int) := IntWalk.i64_in _ (by omega)
  have e5 : IntKind.i64.wrap (r : Int) = (r : Int) := IntWalk.i64_in _ (by omega)
  have hadd : ∀ W, (Op.stringOp .add (txt cs) (txt [48 + r])).run Tryz.prog W = .ok (.string (txt (cs ++ [48 + r]))) W := fun W => (run_string_add_sum (P := Tryz.prog) (w := W) (txt cs) (txt [48 + r]) (by rw [txt_size, txt_size]; simp; omega)).trans (by rw [txt_app])
  have Hih := Hid.mk ih
  have Hr := Hid.mk (show r < 10 by omega)
  clear hq hr ih
  go_enter Tryz.func6, Tryz.ntmps6
  go_wp2_with fail
  refine (Hih.out w).mono ?_
  rintro e w' ⟨rfl, rfl⟩
  go_wp2_with fail
  refine (digits_one r Hr.out w).mono ?_
  rintro e w' ⟨rfl, rfl⟩
  go_wp2_with fail
  go_ret
  exact ⟨rfl, rfl⟩
theorem digits_neg (n : Nat) (h0 : 0 < n) (hn : n < 1000) (w : World) : Calls Tryz.prog 6 #[.int .i64 (-(n : Int))] w fun e w' => e = .returned (.string (txt (45 :: (digs n).map (48 + ·)))) ∧ w = w' := by
  have htwo : ∀ m : Nat, 10 ≤ m → m < 100 → ∀ w, Calls Tryz.prog 6 #[.int .i64 (-(m : Int))] w fun e w' => e = .returned (.string (txt (45 :: [48 + m / 10, 48 + m % 10]))) ∧ w = w' := fun m h1 h2 w =>
    digits_negm m (m / 10) (m % 10) (45 :: [48 + m / 10]) (by simp) h1 (by omega) rfl rfl (digits_neg1 (m / 10) (by omega) (by omega)) w
  unfold digs
  by_cases h1 : n < 10
  · rw [if_pos h1]; exact digits_neg1 n h0 h1 w
  · rw [if_neg h1]
    by_cases h2 : n < 100
    · rw [if_pos h2]; exact htwo n (by omega) h2 w
    · rw [if_neg h2]
      have h := digits_negm n (n / 10) (n % 10) _ (by simp) (by omega) hn rfl rfl (htwo (n / 10) (by omega) (by omega)) w
      have e1 : n / 10 / 10 = n / 100 := by omega
      rw [e1] at h
      exact h
/-- The number that digits writes. -/
def numOf (i : Int) : Num := (decide (i < 0), digs i.natAbs)
theorem digits_any (i : Int) (h1 : -1000 < i) (h2 : i < 1000) (w : World) : Calls Tryz.prog 6 #[.int .i64 i] w fun e w' => e = .returned (.string (txt (ncodes (numOf i)))) ∧ ∃ k, w' = w.drewN k := by
  by_cases h : i < 0
  · obtain ⟨n, rfl⟩ : ∃ n : Nat, i = -(n : Int) := ⟨i.natAbs, by omega⟩
    refine (digits_neg n (by omega) (by omega) w).mono ?_
    rintro e w' ⟨rfl, rfl⟩
    refine ⟨?_, 0, rfl⟩
    have hn : 0 < n := by omega
    simp [numOf, ncodes, hn]
  · obtain ⟨n, rfl⟩ : ∃ n : Nat, i = (n : Int) := ⟨i.natAbs, by omega⟩
    refine (digits_pos n (by omega) w).mono ?_
    rintro e w' ⟨rfl, h3⟩
    refine ⟨?_, h3⟩
    have hn : ¬ ((n : Int) < 0) := h
    simp [numOf, ncodes, hn]
theorem numOf_val (i : Int) (h1 : -128 ≤ i) (h2 : i ≤ 127) : NumV (numOf i) := by
  have hn : i.natAbs < 129 := by omega
  refine ⟨⟨?_, ?_, ?_, ?_⟩, ?_⟩
  · unfold numOf digs; simp only; split <;> (try split) <;> simp
  · unfold numOf digs; simp only; split <;> (try split) <;> simp
  · unfold numOf digs
    generalize i.natAbs = n at hn
    simp only
    intro d hd
    split at hd
    · simp at hd; omega
    · split at hd <;> simp at hd <;> omega
  · unfold numOf digs
    generalize i.natAbs = n at hn
    simp only
    split
    · rename_i h
      by_cases h0 : n = 0
      · left; simp [h0]
      · right; simpa using h0
    · right
      split <;> simp <;> omega
  · have h := digs_val i.natAbs hn
    unfold numOf
    simp only
    cases hp : pfF (digs i.natAbs) with
    | none => rw [hp] at h; simp at h
    | some r => rw [hp] at h; exact ⟨r, rfl, by simpa using h⟩
end Go.Proofs.YtpigmadopflfkaaGreatDoor

namespace Go.Proofs.YtpigmadopflfkaaGreatDoor
open Go.RowKit Go.BigFrame
def jn : List (List Nat) → List Nat
  | [] => []
  | [x] => x
  | x :: y :: r => x ++ 44 :: jn (y :: r)
theorem jn_snoc : ∀ (l : List (List Nat)) (x : List Nat), l ≠ [] → jn (l ++ [x]) = jn l ++ 44 :: x
  | [], _, h => absurd rfl h
  | [a], x, _ => rfl
  | a :: b :: r, x, _ => by
    have ih := jn_snoc (b :: r) x (by simp)
    show a ++ 44 :: jn ((b :: r) ++ [x]) = (a ++ 44 :: jn (b :: r)) ++ 44 :: x
    rw [ih]
    simp
theorem jn_len : ∀ (l : List (List Nat)), (∀ x ∈ l, x.length ≤ 4) → (jn l).length ≤ 5 * l.length
  | [], _ => by simp [jn]
  | [a], h => by have := h a (by simp); simp [jn]; omega
  | a :: b :: r, h => by
    have ih := jn_len (b :: r) (fun x hx => h x (by simp at hx ⊢; exact .inr hx))
    have := h a (by simp)
    simp only [jn, List.length_append, List.length_cons] at ih ⊢
    omega
theorem jn_enc : ∀ (l : List Num), jn (l.map ncodes) = encL l
  | [] => rfl
  | [x] => rfl
  | x :: y :: r => by
    have ih := jn_enc (y :: r)
    show ncodes x ++ 44 :: jn ((y :: r).map ncodes) = ncodes x ++ 44 :: encL (y :: r)
    rw [ih]
theorem sadd (a b : List Nat) (h : a.length + b.length < 1000000) (W : World) : (Op.stringOp .add (txt a) (txt b)).run Tryz.prog W = .ok (.string (txt (a ++ b))) W :=
  (run_string_add_sum (P := Tryz.prog) (w := W) (txt a) (txt b) (by rw [txt_size, txt_size]; omega)).trans (by rw [txt_app])

set_option maxRecDepth 100000 in
set_option maxHeartbeats 1000000 in
theorem joined_any (B n cap : Nat) (sa : Option Addr) (xs : List (List Nat)) (w : World) (hn : xs.length = n) (h4 : ∀ x ∈ xs, x.length ≤ 4) (hn40 : n ≤ 1000) (ho : w.ownsRow B 9 1 (.slice sa n cap) n (xs.map fun c => .string (txt c))) :
    Calls Tryz.prog 10 #[.slice sa n cap, .string { data := #[44] }] w fun e w' => e = .returned (.string (txt (jn xs))) ∧ w = w' := by
  have H := Hid.mk (And.intro hn (And.intro h4 ho))
  clear hn h4 ho
  go_enter Tryz.func10, Tryz.ntmps10
  go_wp2_with fail
  go_loopg [5, 10] n (fun f vo vi wr => ∃ i : Nat, vi = .int .i64 i ∧ f + i = n ∧ vo = .string (txt (jn (xs.take i))) ∧ w = wr)
  case atStart => exact ⟨0, rfl, by omega, rfl, rfl⟩
  case round =>
    obtain ⟨i, rfl, hfi, rfl, rfl⟩ := hrel
    by_cases hin : i < n
    · obtain ⟨g, rfl, hg1, hg2, hcs⟩ := own_cells H.out.2.2 (by omega)
      have hil : i < xs.length := by rw [H.out.1]; exact hin
      have hc : w.cell? ⟨g, i, none⟩ = some (.string (txt (xs[i]))) := by rw [hcs i hin]; simp
      have hlt : (i : Int) < (n : Int) := by omega
      have hxl := H.out.2.1 (xs[i]) (List.getElem_mem hil)
      have htk : xs.take (i + 1) = xs.take i ++ [xs[i]] := by rw [List.take_add_one, List.getElem?_eq_getElem hil]; rfl
      have hl := jn_len (xs.take i) (fun x hx => H.out.2.1 x (List.mem_of_mem_take hx))
      have hl2 : (xs.take i).length ≤ 1000 := by rw [List.length_take]; omega
      have a1 := fun W => sadd (jn (xs.take i)) [44] (by simp; omega) W
      have a2 := fun W => sadd (jn (xs.take i) ++ [44]) (xs[i]) (by simp; omega) W
      have a3 := fun W => sadd (jn (xs.take i)) (xs[i]) (by omega) W
      have a1' : ∀ W, (Op.stringOp .add (txt (jn (xs.take i))) { data := #[44] }).run Tryz.prog W = .ok (.string (txt (jn (xs.take i) ++ [44]))) W := a1
      have Hl := Hid.mk (And.intro hl (And.intro hl2 (And.intro htk (And.intro hxl hil))))
      clear hcs hg1 hg2 hl hl2 htk hxl a1
      have e5 : IntKind.i64.wrap ((i : Int) + 1) = (i : Int) + 1 := IntWalk.i64_in _ (by omega)
      by_cases h0 : i = 0
      · have h0' : ¬ ((0 : Int) < (i : Int)) := by omega
        have H0 := Hid.mk h0
        clear h0
        go_wp2_with fail
        rw [show (i : Int) + 1 = ((i + 1 : Nat) : Int) by simp]
        go_roundg (n - (i + 1))
        case measure => omega
        case rel =>
          refine ⟨i + 1, rfl, by omega, ?_, rfl⟩
          rw [Hl.out.2.2.1]
          have h0 := H0.out
          subst h0
          rfl
      · have h0' : ((0 : Int) < (i : Int)) := by omega
        have hne : xs.take i ≠ [] := by
          intro e
          have h := congrArg List.length e
          have hil := Hl.out.2.2.2.2
          rw [List.length_take] at h
          simp only [List.length_nil] at h
          omega
        have H0 := Hid.mk hne
        clear h0 hne
        go_wp2_with fail
        rw [show (i : Int) + 1 = ((i + 1 : Nat) : Int) by simp]
        go_roundg (n - (i + 1))
        case measure => omega
        case rel =>
          refine ⟨i + 1, rfl, by omega, ?_, rfl⟩
          rw [Hl.out.2.2.1, jn_snoc _ _ H0.out]
    · obtain rfl : i = n := by omega
      have hlt : ¬ (i : Int) < (i : Int) := by omega
      have ht : xs.take i = xs := List.take_of_length_le (by rw [H.out.1]; exact Nat.le_refl _)
      rw [ht]
      go_wp2_with fail
      go_ret
      exact ⟨rfl, rfl⟩

set_option maxRecDepth 100000 in
set_option maxHeartbeats 1000000 in
theorem list_any (B n cap : Nat) (sa : Option Addr) (l : List Num) (w : World) (hn : l.length = n) (h4 : ∀ x ∈ l, (ncodes x).length ≤ 4) (hn40 : n ≤ 1000) (ho : w.ownsRow B 9 1 (.slice sa n cap) n (l.map fun x => .string (txt (ncodes x)))) :
    Calls Tryz.prog 7 #[.slice sa n cap] w fun e w' => e = .returned (.string (txt (enc (.arr l)))) ∧ w = w' := by
  have hj := joined_any B n cap sa (l.map ncodes) w (by simpa using hn) (by intro x hx; obtain ⟨y, hy, rfl⟩ := List.mem_map.1 hx; exact h4 y hy) hn40 (by simpa [Function.comp_def] using ho)
  rw [jn_enc] at hj
  have hl : (encL l).length ≤ 5000 := by
    rw [← jn_enc]
    have := jn_len (l.map ncodes) (by intro x hx; obtain ⟨y, hy, rfl⟩ := List.mem_map.1 hx; exact h4 y hy)
    simp at this
    omega
  have a1 := fun W => sadd [91] (encL l) (by simp; omega) W
  have a2 := fun W => sadd (91 :: encL l) [93] (by simp; omega) W
  have a1' : ∀ W, (Op.stringOp .add { data := #[91] } (txt (encL l))).run Tryz.prog W = .ok (.string (txt (91 :: encL l))) W := a1
  have a2' : ∀ W, (Op.stringOp .add (txt (91 :: encL l)) { data := #[93] }).run Tryz.prog W = .ok (.string (txt (91 :: (encL l ++ [93])))) W := a2
  have Hj := Hid.mk hj
  clear hj a1 a2 hn h4 ho hl
  go_enter Tryz.func7, Tryz.ntmps7
  go_wp2_with fail
  refine Hj.out.mono ?_
  rintro e w' ⟨rfl, rfl⟩
  go_wp2_with fail
  go_ret
  exact ⟨rfl, rfl⟩
end Go.Proofs.YtpigmadopflfkaaGreatDoor
