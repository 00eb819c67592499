/- decimal.bits computes what its mirror function says. Condition: the mirror function has a value there. -/
import Derived.Test.YtpigmadopflfkaaGreatDoorDecD
namespace Go.Proofs.YtpigmadopflfkaaGreatDoor
open Go.RowKit Go.BigFrame

def sizeOk (ds : List Nat) (dp : Int) : Prop := ds.length < 1000 ∧ -1000 < dp ∧ dp < 1000
instance (ds : List Nat) (dp : Int) : Decidable (sizeOk ds dp) := by unfold sizeOk; exact inferInstance
def bitsA : Nat → List Nat → Int → Int → Option (List Nat × Int × Int)
  | 0, _, _, _ => none
  | f + 1, ds, dp, e => if sizeOk ds dp ∧ dp < 20 then (if 0 < dp then (match halfF (3 * dp).toNat ds dp with | none => none | some (ds', dp') => bitsA f ds' dp' (e + 3 * dp)) else some (ds, dp, e)) else none
def bitsB : Nat → List Nat → Int → Int → Option (List Nat × Int × Int)
  | 0, _, _, _ => none
  | f + 1, ds, dp, e => if sizeOk ds dp ∧ ds ≠ [] ∧ -20 < dp then (if dp < 0 then (match dblF (-3 * dp).toNat ds dp with | none => none | some (ds', dp') => bitsB f ds' dp' (e - -3 * dp))
      else if ds.getD 0 0 < 5 then (match dblF 1 ds dp with | none => none | some (ds', dp') => bitsB f ds' dp' (e - 1)) else some (ds, dp, e)) else none
def bitsC (ds : List Nat) (dp e : Int) : Option Nat :=
  if sizeOk ds dp ∧ -1021 ≤ e ∧ e ≤ 1023 then (match dblF 53 ds dp with
    | none => none
    | some (ds', dp') => if 0 ≤ dp' ∧ dp' < 1000 then (match wholeF ds' dp'.toNat with
      | none => none
      | some m => if 2 ^ 52 ≤ m ∧ m < 2 ^ 53 then some (m - 2 ^ 52 + (e + 1022).toNat * 2 ^ 52) else none) else none) else none
def bitsF (ds : List Nat) (dp : Int) : Option Nat :=
  if ds = [] then some 0
  else if dp < -330 ∨ 310 < dp then none
  else match bitsA 100 ds dp 0 with
    | none => none
    | some (ds1, dp1, e1) => match bitsB 100 ds1 dp1 e1 with
      | none => none
      | some (ds2, dp2, e2) => bitsC ds2 dp2 e2

theorem bits_or_nat (a b : Nat) (ha : a < 18446744073709551616) (hb : b < 18446744073709551616) :
    bits .or .u64 (a : Int) (b : Int) = ((a ||| b : Nat) : Int) := by
  have hx : a ||| b < 2 ^ 64 := Nat.or_lt_two_pow (by omega) (by omega)
  have h1 : (BitVec.ofInt 64 (a : Int)).toNat = a := by
    rw [BitVec.ofInt_natCast, BitVec.toNat_ofNat]; exact Nat.mod_eq_of_lt (by omega)
  have h2 : (BitVec.ofInt 64 (b : Int)).toNat = b := by
    rw [BitVec.ofInt_natCast, BitVec.toNat_ofNat]; exact Nat.mod_eq_of_lt (by omega)
  show IntKind.u64.wrap ((BitVec.ofInt 64 (a : Int) ||| BitVec.ofInt 64 (b : Int)).toNat : Int) = _
  rw [BitVec.toNat_or, h1, h2, IntKind.wrap_u64]
  omega
theorem and_top {m : Nat} (h1 : 4503599627370496 ≤ m) (h2 : m < 9007199254740992) : bits BinOp.and IntKind.u64 (m : Int) 4503599627370496 = 4503599627370496 := by
  have := bits_and_u64_nat m 4503599627370496 (by omega) (by omega)
  refine this.trans ?_
  have e : m &&& 2 ^ 52 = 2 ^ 52 := by
    have hb : m.testBit 52 = true := by
      rw [Nat.testBit_eq_decide_div_mod_eq]
      have : m / 2 ^ 52 = 1 := by omega
      rw [this]; rfl
    apply Nat.eq_of_testBit_eq
    intro i
    rw [Nat.testBit_and, Nat.testBit_two_pow]
    by_cases hi : 52 = i
    · subst hi; rw [hb]; rfl
    · simp [hi]
  have e' : m &&& 4503599627370496 = 4503599627370496 := e
  rw [e']; rfl
theorem and_low {m : Nat} (h1 : 4503599627370496 ≤ m) (h2 : m < 9007199254740992) : bits BinOp.and IntKind.u64 (m : Int) 4503599627370495 = ((m - 4503599627370496 : Nat) : Int) := by
  have := bits_and_u64_nat m 4503599627370495 (by omega) (by omega)
  refine this.trans ?_
  have e : m &&& (2 ^ 52 - 1) = m % 2 ^ 52 := Nat.and_two_pow_sub_one_eq_mod m 52
  have e' : m &&& 4503599627370495 = m % 4503599627370496 := e
  rw [e']; omega
theorem or_sum {a E : Nat} (h1 : a < 4503599627370496) (h2 : E < 2048) : bits BinOp.or IntKind.u64 (a : Int) ((E * 4503599627370496 : Nat) : Int) = ((a + E * 4503599627370496 : Nat) : Int) := by
  rw [bits_or_nat a (E * 4503599627370496) (by omega) (by omega)]
  have := Nat.two_pow_add_eq_or_of_lt (b := a) (i := 52) (by omega) E
  have e : (2 : Nat) ^ 52 = 4503599627370496 := rfl
  rw [e] at this
  rw [Nat.or_comm, Nat.mul_comm E, ← this]
  omega

set_option maxRecDepth 100000 in
set_option maxHeartbeats 1000000 in
theorem bits_zero (B b : Nat) (dp : Int) (w : World) (hd : Dec B w b [] dp) :
    Calls Tryz.prog 148 #[.pointer (some ⟨b, 0, none⟩), .agg #[.int .i64 52, .int .i64 11, .int .i64 (-1023)]] w fun e w' =>
      e = .returned (.tuple #[.int .u64 0, .bool false]) ∧ Kp [b] w w' := by
  obtain ⟨a, cap, hc, hf, hcap, hcap2, hbl, hcells⟩ := hd.opened
  clear hcells
  simp only [List.length_nil] at hc
  go_enter Tryz.func148, Tryz.ntmps148
  go_wp2_with fail
  go_quiet (fail)
  go_wp2_with fail
  go_ret2
  exact ⟨rfl, ((Kp.refl _ _).alloc _).drewN _⟩

set_option maxRecDepth 100000 in
set_option maxHeartbeats 1000000 in
theorem bits_any (B b : Nat) (ds : List Nat) (dp : Int) (w : World) (hB : B ≤ w.heap.size) (hne : ds ≠ []) (h1 : ¬ dp < -330) (h2 : ¬ 310 < dp) (hd : Dec B w b ds dp) (ds1 ds2 : List Nat) (dp1 dp2 e1 e2 : Int) (r : Nat) (hA : bitsA 100 ds dp 0 = some (ds1, dp1, e1))
    (hBB : bitsB 100 ds1 dp1 e1 = some (ds2, dp2, e2)) (hC : bitsC ds2 dp2 e2 = some r) :
    Calls Tryz.prog 148 #[.pointer (some ⟨b, 0, none⟩), .agg #[.int .i64 52, .int .i64 11, .int .i64 (-1023)]] w fun e w' =>
      e = .returned (.tuple #[.int .u64 r, .bool false]) ∧ Kp [b] w w' := by
  obtain ⟨a, cap, hc, hf, hcap, hcap2, hbl, hcells⟩ := hd.opened
  have hl1 : ((ds.length : Int) == 0) = false := by
    have := List.length_pos_iff.2 hne
    simp; omega
  have Hd := Hid.mk hd
  have HA := Hid.mk (And.intro hA (And.intro hBB hC))
  clear hcells hA hBB hC hd hne
  go_enter Tryz.func148, Tryz.ntmps148
  go_wp2_with fail
  go_quiet (fail)
  go_wp2_with fail
  have hD0 : Dec B ((w.alloc (.cells #[.int .i64 52, .int .i64 11, .int .i64 (-1023)] 188)).drewN nq) b ds dp :=
    Hd.out.kept (S := []) (((Kp.refl _ _).alloc _).drewN _) (by simp) (by simp)
  have hb0 : ((w.alloc (.cells #[.int .i64 52, .int .i64 11, .int .i64 (-1023)] 188)).drewN nq).heap[w.heap.size]? = some (.cells #[.int .i64 52, .int .i64 11, .int .i64 (-1023)] 188) := heap_alloc_same _ _
  clear hc hf
  go_loopg [7] 100 (fun f ee wr => ∃ (ds' : List Nat) (dp' e : Int), ee = .int .i64 e ∧ bitsA f ds' dp' e = some (ds1, dp1, e1) ∧ Dec B wr b ds' dp' ∧ wr.heap[w.heap.size]? = some (.cells #[.int .i64 52, .int .i64 11, .int .i64 (-1023)] 188) ∧ Kp [b] w wr ∧ 0 ≤ e ∧ e + 59 * f ≤ 5900)
  case atStart => exact ⟨ds, dp, 0, rfl, HA.out.1, hD0, hb0, ((Kp.refl _ _).alloc _).drewN _, by omega, by omega⟩
  case round =>
    clear hD0 hb0
    obtain ⟨ds', dp', e, rfl, hA1, hd1, hb1, hk1, he0, he1⟩ := hrel
    obtain ⟨f, rfl⟩ : ∃ f, gk = f + 1 := by
      cases gk with
      | zero => cases hA1
      | succ f => exact ⟨f, rfl⟩
    have hso : sizeOk ds' dp' ∧ dp' < 20 := by
      refine Decidable.byContradiction fun hno => ?_
      rw [bitsA, if_neg hno] at hA1
      cases hA1
    rw [bitsA, if_pos hso] at hA1
    obtain ⟨⟨hs1, hs2, hs3⟩, hs4⟩ := hso
    obtain ⟨a', cap', hc, hf, hcp1, hcp2, hbl1, hcells⟩ := hd1.opened
    have he2 : e ≤ 5900 := by omega
    have Hd1 := Hid.mk hd1
    have Hb1 := Hid.mk hb1
    have He1 := Hid.mk he1
    clear hcells hd1 hb1 he1
    by_cases hp : 0 < dp'
    · rw [if_pos hp] at hA1
      obtain ⟨m, rfl⟩ := Int.eq_ofNat_of_zero_le (show 0 ≤ dp' by omega)
      cases hh : halfF (3 * (m : Int)).toNat ds' m with
      | none => rw [hh] at hA1; cases hA1
      | some r0 =>
        obtain ⟨ds3, dp3⟩ := r0
        rw [hh] at hA1
        rw [show (3 * (m : Int)).toNat = 3 * m by omega] at hh
        have HA1 := Hid.mk (And.intro hh hA1)
        clear hh hA1
        go_wp2_with fail
        rw [show (3 * (m : Int)) = ((3 * m : Nat) : Int) by simp]
        refine (half_any B b ds' (3 * m) m wr (Nat.le_trans hB hk1.size) (by omega) (by omega) (by omega) (by omega) Hd1.out ds3 dp3 HA1.out.1).mono ?_
        rintro e' w3 ⟨rfl, hd3, hk3⟩
        have Hd3 := Hid.mk hd3
        have Hk3 := Hid.mk hk3
        clear hd3 hk3 hc hf
        go_wp2_with fail
        go_roundg f
        case measure => omega
        case rel => exact ⟨ds3, dp3, e + 3 * m, by simp, HA1.out.2, Hd3.out, Hk3.out.at Hb1.out (by simp; omega), hk1.trans Hk3.out, by omega, by have := He1.out; omega⟩
    · rw [if_neg hp] at hA1
      simp only [Option.some.injEq, Prod.mk.injEq] at hA1
      obtain ⟨rfl, rfl, rfl⟩ := hA1
      go_wp2_with fail
      clear hc hf
      obtain ⟨wo, hwo⟩ : ∃ wo : World, wo = wr := ⟨_, rfl⟩
      go_loopg [7] 100 (fun f ee wr => ∃ (ds' : List Nat) (dp' e' : Int), ee = .int .i64 e' ∧ bitsB f ds' dp' e' = some (ds2, dp2, e2) ∧ Dec B wr b ds' dp' ∧ wr.heap[w.heap.size]? = some (.cells #[.int .i64 52, .int .i64 11, .int .i64 (-1023)] 188) ∧ Kp [b] w wr ∧ e' ≤ 5900 ∧ -5900 ≤ e' - 59 * f)
      case atStart => exact ⟨_, _, e, rfl, HA.out.2.1, Hd1.out, Hb1.out, hk1, by omega, by omega⟩
      case round =>
        clear hwo wo
        obtain ⟨ds', dp', e', rfl, hA1, hd1, hb1, hk1, he0, he1⟩ := hrel
        obtain ⟨f, rfl⟩ : ∃ f, gk = f + 1 := by
          cases gk with
          | zero => cases hA1
          | succ f => exact ⟨f, rfl⟩
        have hso : sizeOk ds' dp' ∧ ds' ≠ [] ∧ -20 < dp' := by
          refine Decidable.byContradiction fun hno => ?_
          rw [bitsB, if_neg hno] at hA1
          cases hA1
        rw [bitsB, if_pos hso] at hA1
        obtain ⟨⟨hs1', hs2', hs3'⟩, hs5', hs4'⟩ := hso
        obtain ⟨a'', cap'', hc, hf, hcp1', hcp2', hbl1', hcells⟩ := hd1.opened
        have he2 : -5900 ≤ e' := by omega
        have Hd1 := Hid.mk hd1
        have Hb1 := Hid.mk hb1
        have He1 := Hid.mk he1
        clear hd1 hb1 he1
        by_cases hp : dp' < 0
        · rw [if_pos hp] at hA1
          clear hcells
          obtain ⟨m, rfl⟩ : ∃ m : Nat, dp' = -(m : Int) := ⟨(-dp').toNat, by omega⟩
          cases hh : dblF (-3 * -(m : Int)).toNat ds' (-(m : Int)) with
          | none => rw [hh] at hA1; cases hA1
          | some r0 =>
            obtain ⟨ds3, dp3⟩ := r0
            rw [hh] at hA1
            rw [show (-3 * -(m : Int)).toNat = 3 * m by omega] at hh
            have HA1 := Hid.mk (And.intro hh hA1)
            clear hh hA1
            go_wp2_with fail
            rw [show (-3 * -(m : Int)) = ((3 * m : Nat) : Int) by omega]
            refine (double_any B b ds' (3 * m) (-(m : Int)) wr (Nat.le_trans hB hk1.size) (by omega) (by omega) (by omega) (by omega) Hd1.out ds3 dp3 HA1.out.1).mono ?_
            rintro e' w3 ⟨rfl, hd3, hk3⟩
            have Hd3 := Hid.mk hd3
            have Hk3 := Hid.mk hk3
            clear hd3 hk3 hc hf
            go_wp2_with fail
            go_roundg f
            case measure => omega
            case rel =>
              refine ⟨ds3, dp3, e' - 3 * m, by simp, ?_, Hd3.out, Hk3.out.at Hb1.out (by simp; omega), hk1.trans Hk3.out, by omega, by have := He1.out; omega⟩
              have := HA1.out.2
              rw [show e' - -3 * -(m : Int) = e' - 3 * m by omega] at this
              exact this
        · rw [if_neg hp] at hA1
          have hl2 : 0 < ds'.length := List.length_pos_iff.2 hs5'
          obtain ⟨g, x, rfl, hx, hx9, hxx, _⟩ := hcells 0 hl2
          rw [← hxx] at hA1
          have Hxx := Hid.mk hxx
          clear hcells hxx
          by_cases h5 : x < 5
          · rw [if_pos h5] at hA1
            cases hh : dblF 1 ds' dp' with
            | none => rw [hh] at hA1; cases hA1
            | some r0 =>
              obtain ⟨ds3, dp3⟩ := r0
              rw [hh] at hA1
              have HA1 := Hid.mk (And.intro hh hA1)
              clear hh hA1
              go_wp2_with fail
              refine (double_any B b ds' 1 dp' wr (Nat.le_trans hB hk1.size) (by omega) (by omega) (by omega) (by omega) Hd1.out ds3 dp3 HA1.out.1).mono ?_
              rintro e'' w3 ⟨rfl, hd3, hk3⟩
              have Hd3 := Hid.mk hd3
              have Hk3 := Hid.mk hk3
              clear hd3 hk3 hc hf hx
              go_wp2_with fail
              go_roundg f
              case measure => omega
              case rel => exact ⟨ds3, dp3, e' - 1, rfl, HA1.out.2, Hd3.out, Hk3.out.at Hb1.out (by simp; omega), hk1.trans Hk3.out, by omega, by have := He1.out; omega⟩
          · rw [if_neg h5] at hA1
            simp only [Option.some.injEq, Prod.mk.injEq] at hA1
            obtain ⟨rfl, rfl, rfl⟩ := hA1
            have hC := HA.out.2.2
            unfold bitsC at hC
            split at hC
            case isFalse => cases hC
            rename_i hso
            obtain ⟨hso, hee1, hee2⟩ := hso
            split at hC
            case h_1 => cases hC
            rename_i ds3 dp3 hdbl
            split at hC
            case isFalse => cases hC
            rename_i hdp3
            split at hC
            case h_1 => cases hC
            rename_i mm hwh
            split at hC
            case isFalse => cases hC
            rename_i hmm
            simp only [Option.some.injEq] at hC
            obtain ⟨hm1, hm2⟩ := hmm
            have HC := Hid.mk (And.intro hdbl (And.intro hwh hC))
            clear hdbl hwh hC
            have hcb := blk_cell Hb1.out
            go_wp2_with fail
            go_quiet (fail)
            go_wp2_with fail
            refine (shift_pos B b ds' 53 dp' (wr.drewN nq) (Nat.le_trans hB hk1.size) (by decide) (by decide) (by omega) (by omega) (by omega) (Hd1.out.drewN nq) ds3 dp3 HC.out.1).mono ?_
            rintro e'' w3 ⟨rfl, hd3, hk3⟩
            have Hd3 := Hid.mk hd3
            have Hb3 := Hid.mk (hk3.at (o := .cells #[.int .i64 52, .int .i64 11, .int .i64 (-1023)] 188) (b := w.heap.size) Hb1.out (by simp; omega))
            have Hk3 := Hid.mk ((hk1.drewN nq).trans hk3)
            clear hd3 hk3 hc hf hx hcb
            have hcb := blk_cell Hb3.out
            go_wp2_with fail
            obtain ⟨dn, hdn⟩ : ∃ dn : Nat, (dn : Int) = dp3 := ⟨dp3.toNat, by omega⟩
            refine (whole_any B b ds3 dn w3 (by omega) (by rw [hdn]; exact Hd3.out) mm (by rw [show dn = dp3.toNat by omega]; exact HC.out.2.1)).mono ?_
            clear hdn
            rintro e'' w4 ⟨rfl, rfl⟩
            have hne1 : ((mm : Int) == 9007199254740992) = false := by simp; omega
            have hne2 : (bits BinOp.and IntKind.u64 (mm : Int) 4503599627370496 == 0) = false := by rw [and_top (by omega) (by omega)]; rfl
            obtain ⟨E, hE⟩ : ∃ E : Nat, (E : Int) = e' + 1022 := ⟨(e' + 1022).toNat, by omega⟩
            obtain ⟨a0, ha0⟩ : ∃ a0 : Nat, a0 = mm - 4503599627370496 := ⟨_, rfl⟩
            have hlow := and_low (m := mm) (by omega) (by omega)
            rw [← ha0] at hlow
            have hsh : IntKind.u64.wrap ((e' - 1 + 1023) * 4503599627370496) = ((E * 4503599627370496 : Nat) : Int) := by rw [IntKind.wrap_u64]; omega
            have hor := or_sum (a := a0) (E := E) (by omega) (by omega)
            have Hr := Hid.mk (And.intro hE ha0)
            clear hE ha0
            go_wp2_with fail
            go_quiet (fail)
            go_wp2_with fail
            go_ret2
            refine ⟨congrArg Ending.returned (congrArg Value.tuple ?_), Hk3.out.drewN _⟩
            show #[Value.int IntKind.u64 (bits BinOp.or IntKind.u64 (↑a0) (↑E * 4503599627370496)), Value.bool false] = _
            rw [show ((E : Int) * 4503599627370496) = ((E * 4503599627370496 : Nat) : Int) by simp, hor, show a0 + E * 4503599627370496 = r by
              have h1 := Hr.out.1
              have h2 := Hr.out.2
              have h3 := HC.out.2.2
              omega]
end Go.Proofs.YtpigmadopflfkaaGreatDoor
