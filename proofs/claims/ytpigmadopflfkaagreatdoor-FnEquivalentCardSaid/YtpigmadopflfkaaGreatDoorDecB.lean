/- decimal.trim and decimal.half compute what their mirror functions say. Condition: the decimal lies in the memory as a row of digits. -/
import Derived.Test.YtpigmadopflfkaaGreatDoorBase
import Derived.Outline
namespace Go.Proofs.YtpigmadopflfkaaGreatDoor
open Go.RowKit Go.BigFrame

abbrev dig (n : Nat) : Value := .int .u8 (n : Int)
/-- The decimal in block b: its digits and its point; its row lies at B or above. -/
def Dec (B : Nat) (w : World) (b : Nat) (ds : List Nat) (dp : Int) : Prop :=
  ∃ a cap, w.heap[b]? = some (.cells #[.slice a ds.length cap, .int .i64 dp] 195) ∧ w.ownsRow B 5 1 (.slice a ds.length cap) ds.length (ds.map dig) ∧ (∀ g, a = some g → g.block ≠ b) ∧ ∀ d ∈ ds, d < 10

def trimZ (ds : List Nat) : List Nat := if _h : ds ≠ [] ∧ ds.getLast? = some 0 then trimZ ds.dropLast else ds
termination_by ds.length
decreasing_by simp; have := List.length_pos_iff.2 _h.1; omega

theorem trimZ_yes {ds : List Nat} (h : ds.getLast? = some 0) : trimZ ds = trimZ ds.dropLast := by
  rw [trimZ, dif_pos ⟨by rintro rfl; simp at h, h⟩]
theorem trimZ_no {ds : List Nat} (h : ds.getLast? ≠ some 0) : trimZ ds = ds := by
  rw [trimZ, dif_neg (fun e => h e.2)]

def TrimQ (B b : Nat) (ds : List Nat) (dp : Int) (w w' : World) : Prop :=
  Dec B w' b (trimZ ds) (if trimZ ds = [] then 0 else dp) ∧ Kp [b] w w'

theorem Dec.setPt {B : Nat} {w : World} {b : Nat} {ds : List Nat} {dp : Int} (h : Dec B w b ds dp) (q : Int) : Dec B (w.setCell ⟨b, 1, none⟩ (.int .i64 q)) b ds q := by
  obtain ⟨a, cap, hb, ho, hne, hd9⟩ := h
  exact ⟨a, cap, by rw [heap_setCell_same hb]; rfl, own_setCell ho (fun k hk e => by
    cases a with
    | none => cases hk
    | some g => exact hne g rfl (by cases hk; exact e)) _, hne, hd9⟩
theorem Dec.setRow {B : Nat} {w : World} {b : Nat} {ds : List Nat} {dp : Int} (h : Dec B w b ds dp) {es : List Nat} {a : Option Addr} {cap : Nat}
    (ho : w.ownsRow B 5 1 (.slice a es.length cap) es.length (es.map dig)) (hne : ∀ g, a = some g → g.block ≠ b) (hd9 : ∀ d ∈ es, d < 10) :
    Dec B (w.setCell ⟨b, 0, none⟩ (.slice a es.length cap)) b es dp := by
  obtain ⟨a0, cap0, hb, _, _, _⟩ := h
  exact ⟨a, cap, by rw [heap_setCell_same hb]; rfl, own_setCell ho (fun k hk e => by
    cases a with
    | none => cases hk
    | some g => exact hne g rfl (by cases hk; exact e)) _, hne, hd9⟩
theorem Dec.drewN {B : Nat} {w : World} {b : Nat} {ds : List Nat} {dp : Int} (h : Dec B w b ds dp) (n : Nat) : Dec B (w.drewN n) b ds dp := h
theorem Dec.kept {B : Nat} {w w' : World} {b : Nat} {ds : List Nat} {dp : Int} {S : List Nat} (h : Dec B w b ds dp) (hk : Kp S w w') (hb : b ∉ S) (hS : ∀ i ∈ S, i < B) : Dec B w' b ds dp := by
  obtain ⟨a, cap, h1, ho, hne, hd9⟩ := h
  refine ⟨a, cap, hk.at h1 hb, hk.owns ho (fun k hk' e => ?_), hne, hd9⟩
  have := (ho.lt k hk').1
  have := hS k e
  omega

set_option maxHeartbeats 400000 in
theorem trim_any (B b : Nat) (ds : List Nat) (dp : Int) (w : World) (hd : Dec B w b ds dp) :
    Calls Tryz.prog 168 #[.pointer (some ⟨b, 0, none⟩)] w fun e w' =>
      e = .returned (.pointer (some ⟨b, 0, none⟩)) ∧ TrimQ B b ds dp w w' := by
  go_enter Tryz.func168, Tryz.ntmps168
  go_wp2
  go_loopg [] ds.length (fun k wr => ∃ ds', trimZ ds' = trimZ ds ∧ ds'.length = k ∧ Dec B wr b ds' dp ∧ Kp [b] w wr)
  case atStart => exact ⟨ds, rfl, rfl, hd, Kp.refl _ _⟩
  case round =>
    clear hd
    obtain ⟨ds', ht, rfl, hd, hkp⟩ := hrel
    have Hd := Hid.mk hd
    obtain ⟨a, cap, hb, ho, hne, hd9⟩ := hd
    have Ht := Hid.mk ht
    clear ht
    have hc := blk_cell hb
    have hf := blk_frozen hb
    obtain ⟨hcap, hcap2⟩ := own_cap ho
    rcases List.eq_nil_or_concat ds' with rfl | ⟨l, d, rfl⟩
    · clear hb ho hne hd9
      simp only [List.length_nil] at hc
      go_wp2_with fail
      go_quiet (fail)
      go_wp2_with fail
      go_ret
      have e : trimZ ds = [] := by rw [← Ht.out]; exact trimZ_no (by simp)
      refine ⟨rfl, ?_, (hkp.drewN nq).setCell _ (.inl (by simp))⟩
      rw [e, if_pos rfl]
      exact (Hd.out.drewN nq).setPt 0
    · simp only [List.concat_eq_append, List.length_append, List.length_singleton] at *
      have Ho := Hid.mk (own_take (m := l.length) ho (by omega))
      obtain ⟨g, rfl, hg, hg2, hcells⟩ := own_some ho (by omega)
      have h1 := hcells l.length (dig d) (by simp)
      have Hne := Hid.mk hne
      have Hd9 := Hid.mk hd9
      clear hcells hb ho hne hd9
      by_cases hd0 : d = 0
      · subst hd0
        replace h1 : wr.cell? ⟨g, l.length, none⟩ = some (.int .u8 0) := h1
        go_wp2_with fail
        go_quiet (fail)
        go_wp2_with fail
        go_region
        go_wp2_with fail
        go_roundg l.length
        case measure => simp
        case rel =>
          refine ⟨l, ?_, rfl, (Hd.out.drewN (nq + 1)).setRow ?_ Hne.out (fun d hd => Hd9.out d (by simp [hd])), (hkp.drewN _).setCell _ (.inl (by simp))⟩
          · rw [← Ht.out, trimZ_yes (ds := l ++ [0]) (by simp)]; simp
          · have := Ho.out; simp only [List.map_append, List.map_cons, List.map_nil] at this; rw [List.take_left' (by simp)] at this; exact this
      · have hd1 : ((d : Int) == 0) = false := by simpa using hd0
        go_wp2_with fail
        go_quiet (fail)
        go_wp2_with fail
        go_ret
        have e : trimZ ds = l ++ [d] := by rw [← Ht.out]; exact trimZ_no (by simpa using hd0)
        refine ⟨rfl, ?_, hkp.drewN nq⟩
        rw [e, if_neg (by simp)]
        exact Hd.out.drewN nq
end Go.Proofs.YtpigmadopflfkaaGreatDoor

namespace Go.Proofs.YtpigmadopflfkaaGreatDoor
open Go.RowKit Go.BigFrame

def halfA (ds : List Nat) (k : Nat) : Nat → Nat → Nat → Option (Option (Nat × Nat))
  | 0, _, _ => none
  | f + 1, n, i => if n / 2 ^ k = 0 then (if ds.length ≤ i ∧ n = 0 then some none else if n < 900000000000000000 then halfA ds k f (n * 10 + ds.getD i 0) (i + 1) else none) else some (some (n, i))
def halfB (ds : List Nat) (k : Nat) : Nat → Nat → Nat → List Nat → Option (List Nat)
  | 0, _, _, _ => none
  | f + 1, n, i, out => if i < ds.length ∨ 0 < n then (if n / 2 ^ k < 10 ∧ n % 2 ^ k < 900000000000000000 then halfB ds k f (n % 2 ^ k * 10 + ds.getD i 0) (i + 1) (out ++ [n / 2 ^ k]) else none) else some out
/-- What half makes of a decimal. -/
def halfF (k : Nat) (ds : List Nat) (dp : Int) : Option (List Nat × Int) :=
  match halfA ds k 2000 0 0 with
  | none => none
  | some none => some ([], 0)
  | some (some (n, i)) => match halfB ds k 2000 n i [] with
    | none => none
    | some out => some (trimZ out, if trimZ out = [] then 0 else dp - ((i : Int) - 1))

theorem ediv_eq0 {n k : Nat} (h : n / 2 ^ k = 0) : ((n : Int) / 2 ^ k == 0) = true := by
  have : ((n : Int) / 2 ^ k) = ((n / 2 ^ k : Nat) : Int) := by simp
  rw [this, h]; rfl
theorem ediv_ne0 {n k : Nat} (h : ¬ n / 2 ^ k = 0) : ((n : Int) / 2 ^ k == 0) = false := by
  have : ((n : Int) / 2 ^ k) = ((n / 2 ^ k : Nat) : Int) := by simp
  rw [this]; simp; omega

theorem and_mask {n k : Nat} (hk : k ≤ 59) (hn : n < 9000000000000000010) : bits BinOp.and IntKind.u64 (n : Int) (IntKind.u64.wrap (IntKind.u64.wrap (2 ^ k) - 1)) = ((n % 2 ^ k : Nat) : Int) := by
  have h1 : (2 : Nat) ^ k ≤ 2 ^ 59 := Nat.pow_le_pow_right (by decide) hk
  have h0 : 0 < (2 : Nat) ^ k := Nat.pow_pos (by decide)
  have e1 : IntKind.u64.wrap (2 ^ k) = ((2 ^ k : Nat) : Int) := by
    rw [IntKind.wrap_u64, show ((2 : Int) ^ k) = ((2 ^ k : Nat) : Int) by simp]; omega
  have e2 : IntKind.u64.wrap (((2 ^ k : Nat) : Int) - 1) = ((2 ^ k - 1 : Nat) : Int) := by
    rw [IntKind.wrap_u64]; omega
  rw [e1, e2, bits_and_u64_nat n (2 ^ k - 1) (by omega) (by omega), Nat.and_two_pow_sub_one_eq_mod]
theorem getD_out {ds : List Nat} {i : Nat} (h : ds.length ≤ i) : ds.getD i 0 = 0 := by
  rw [List.getD_eq_getElem?_getD, List.getElem?_eq_none h]; rfl
theorem halfA_go {ds : List Nat} {k f n i : Nat} (hq : n / 2 ^ k = 0) (h : ¬ (ds.length ≤ i ∧ n = 0)) (hn : n < 900000000000000000) : halfA ds k (f + 1) n i = halfA ds k f (n * 10 + ds.getD i 0) (i + 1) := by
  rw [halfA, if_pos hq, if_neg h, if_pos hn]
theorem halfA_over {ds : List Nat} {k f n i : Nat} (hq : n / 2 ^ k = 0) (h : ¬ (ds.length ≤ i ∧ n = 0)) (hn : ¬ n < 900000000000000000) : halfA ds k (f + 1) n i = none := by
  rw [halfA, if_pos hq, if_neg h, if_neg hn]
theorem halfA_zero {ds : List Nat} {k f n i : Nat} (hq : n / 2 ^ k = 0) (h : ds.length ≤ i ∧ n = 0) : halfA ds k (f + 1) n i = some none := by
  rw [halfA, if_pos hq, if_pos h]
theorem halfA_end {ds : List Nat} {k f n i : Nat} (hq : ¬ n / 2 ^ k = 0) : halfA ds k (f + 1) n i = some (some (n, i)) := by
  rw [halfA, if_neg hq]
theorem halfB_go {ds : List Nat} {k f n i : Nat} {o : List Nat} (h : i < ds.length ∨ 0 < n) (hg : n / 2 ^ k < 10 ∧ n % 2 ^ k < 900000000000000000) :
    halfB ds k (f + 1) n i o = halfB ds k f (n % 2 ^ k * 10 + ds.getD i 0) (i + 1) (o ++ [n / 2 ^ k]) := by
  rw [halfB, if_pos h, if_pos hg]
theorem halfB_end {ds : List Nat} {k f n i : Nat} {o : List Nat} (h : ¬ (i < ds.length ∨ 0 < n)) : halfB ds k (f + 1) n i o = some o := by
  rw [halfB, if_neg h]
theorem mem_snoc {P : Nat → Prop} {o : List Nat} {x : Nat} (h : ∀ d ∈ o, P d) (hx : P x) : ∀ d ∈ o ++ [x], P d := by
  intro d hd
  simp only [List.mem_append, List.mem_singleton] at hd
  rcases hd with hd | rfl
  · exact h d hd
  · exact hx
theorem halfF_some {k : Nat} {ds : List Nat} {dp : Int} {r : List Nat × Int} (h : halfF k ds dp = some r) : ∃ x, halfA ds k 2000 0 0 = some x := by
  unfold halfF at h
  cases hh : halfA ds k 2000 0 0 with
  | none => rw [hh] at h; cases h
  | some x => exact ⟨x, rfl⟩
theorem halfF_zero {k : Nat} {ds : List Nat} {dp : Int} {es : List Nat} {q : Int} (h : halfF k ds dp = some (es, q)) (h1 : halfA ds k 2000 0 0 = some none) : es = [] ∧ q = 0 := by
  unfold halfF at h
  rw [h1] at h
  simp at h
  exact ⟨h.1, h.2.symm⟩
theorem halfF_go {k : Nat} {ds : List Nat} {dp : Int} {es : List Nat} {q : Int} {n i : Nat} (h : halfF k ds dp = some (es, q)) (h1 : halfA ds k 2000 0 0 = some (some (n, i))) :
    ∃ out, halfB ds k 2000 n i [] = some out ∧ es = trimZ out ∧ q = if trimZ out = [] then 0 else dp - ((i : Int) - 1) := by
  unfold halfF at h
  rw [h1] at h
  simp only at h
  split at h
  · cases h
  · rename_i out hout
    simp only [Option.some.injEq, Prod.mk.injEq] at h
    exact ⟨out, hout, h.1.symm, h.2.symm⟩

set_option maxRecDepth 100000 in
set_option maxHeartbeats 1000000 in
theorem half_any (B b : Nat) (ds : List Nat) (k : Nat) (dp : Int) (w : World) (hB : B ≤ w.heap.size) (hk : k ≤ 59) (hl : ds.length < 1000000) (h1 : -1000000 ≤ dp) (h2 : dp ≤ 1000000) (hd : Dec B w b ds dp) (es : List Nat) (q : Int) (hF : halfF k ds dp = some (es, q)) :
    Calls Tryz.prog 170 #[.pointer (some ⟨b, 0, none⟩), .int .i64 k] w fun e w' =>
      e = .returned (.tuple #[]) ∧ Dec B w' b es q ∧ Kp [b] w w' := by
  have HF := Hid.mk hF
  have Hd := Hid.mk hd
  obtain ⟨a, cap, hb, ho, hne, hd9⟩ := hd
  clear hF
  have hbl := lt_of_heap hb
  have hc := blk_cell hb
  have hf := blk_frozen hb
  have Hb := Hid.mk hb
  have Ho := Hid.mk ho
  obtain ⟨hcap, hcap2⟩ := own_cap ho
  have hcells : ∀ i, i < ds.length → ∃ g x, a = some ⟨g, 0, none⟩ ∧ w.cell? ⟨g, i, none⟩ = some (dig x) ∧ x < 10 ∧ x = ds.getD i 0 ∧ g ≠ b := by
    intro i hi
    obtain ⟨g, rfl, _, _, h⟩ := own_some ho (by omega)
    refine ⟨g, ds.getD i 0, rfl, h i _ (by simp [hi]), ?_, rfl, hne _ rfl⟩
    simp only [List.getD_eq_getElem?_getD, List.getElem?_eq_getElem hi, Option.getD_some]
    exact hd9 _ (List.getElem_mem hi)
  clear ho hb hne hd9
  have Hcells := Hid.mk hcells
  clear hcells
  go_enter Tryz.func170, Tryz.ntmps170
  go_wp2
  go_loopg [4, 5] 2000 (fun f n i wr => w = wr ∧ ∃ n' i' : Nat, n = .int .u64 n' ∧ i = .int .i64 i' ∧ n' < 9000000000000000010 ∧ i' + f = 2000 ∧ halfA ds k f n' i' = halfA ds k 2000 0 0)
  case atStart => exact ⟨rfl, 0, 0, rfl, rfl, by decide, rfl, rfl⟩
  case round =>
    obtain ⟨rfl, n, i, rfl, rfl, hn90, hfu, hA⟩ := hrel
    obtain ⟨f, rfl⟩ : ∃ f, gk = f + 1 := by
      cases gk with
      | zero => obtain ⟨x, hx⟩ := halfF_some HF.out; rw [hx] at hA; cases hA
      | succ f => exact ⟨f, rfl⟩
    have hib : i < 2000 := by omega
    have HA := Hid.mk hA
    have Hfu := Hid.mk hfu
    clear hA hfu
    by_cases hq : n / 2 ^ k = 0
    · have hq0 := ediv_eq0 hq
      have Hq := Hid.mk hq
      clear hq
      by_cases hn : n < 900000000000000000
      · by_cases hi : i < ds.length
        · obtain ⟨g, x, rfl, hx, hx9, hxx, _⟩ := Hcells.out i hi
          have Hxx := Hid.mk hxx
          clear hxx
          go_wp2
          go_roundg f
          case measure => omega
          case rel => exact ⟨rfl, n * 10 + x, i + 1, rfl, rfl, by omega, by have := Hfu.out; omega, by rw [Hxx.out, ← HA.out, halfA_go Hq.out (by omega) hn]⟩
        · by_cases hn0 : n = 0
          · subst hn0
            have hz := halfF_zero HF.out (by rw [← HA.out, halfA_zero Hq.out (by omega)])
            have Hz := Hid.mk hz
            clear hz
            go_wp2
            refine bodyPost_ret (results_none rfl _ _ _) rfl ⟨rfl, ?_, ((Kp.refl _ _).setCell _ (.inl (by simp))).setCell _ (.inl (by simp))⟩
            rw [Hz.out.1, Hz.out.2]
            exact (Hd.out.setRow (es := []) (World.ownsRow_nil _ _ _ _) (by simp) (by simp)).setPt 0
          · have hn1 : ((n : Int) == 0) = false := by simpa using hn0
            go_wp2
            go_roundg f
            case measure => omega
            case rel => exact ⟨rfl, n * 10, i + 1, rfl, rfl, by omega, by have := Hfu.out; omega, by rw [← HA.out, halfA_go Hq.out (by omega) hn, getD_out (by omega)]; rfl⟩
      · exfalso
        obtain ⟨x, hx⟩ := halfF_some HF.out
        rw [← HA.out, halfA_over Hq.out (by omega) hn] at hx
        cases hx
    · have hq0 := ediv_ne0 hq
      obtain ⟨out, ho1, ho2, ho3⟩ := halfF_go HF.out (by rw [← HA.out, halfA_end hq])
      have Hout := Hid.mk (And.intro ho1 (And.intro ho2 ho3))
      clear ho1 ho2 ho3 hq HA Hfu
      obtain ⟨p1, hp1⟩ : ∃ p1, p1 = dp - ((i : Int) - 1) := ⟨_, rfl⟩
      go_wp2
      clear hc hf hq0
      go_loopg [4, 5, 6] 2000 (fun f n' i' v w2 => ∃ (n1 i1 : Nat) (o1 : List Nat) (a1 : Option Addr) (c1 : Nat), n' = .int .u64 n1 ∧ i' = .int .i64 i1 ∧ v = .slice a1 o1.length c1 ∧ n1 < 9000000000000000010 ∧
        i1 + f = 2000 + i ∧ o1.length + f = 2000 ∧ halfB ds k f n1 i1 o1 = some out ∧ w2.heap[b]? = some (.cells #[.slice a ds.length cap, .int .i64 (dp - ((i : Int) - 1))] 195) ∧
        w2.ownsRow w.heap.size 5 1 (.slice a1 o1.length c1) o1.length (o1.map dig) ∧ Kp [b] w w2 ∧ ∀ d ∈ o1, d < 10)
      case atStart =>
        refine ⟨n, i, [], none, 0, rfl, rfl, rfl, hn90, by omega, rfl, Hout.out.1, ?_, World.ownsRow_nil _ _ _ _, (Kp.refl _ _).setCell _ (.inl (by simp)), by simp⟩
        rw [heap_setCell_same Hb.out]; rfl
      case round =>
        obtain ⟨n1, i1, o1, a1, c1, rfl, rfl, rfl, hn9, hf1, hf2, hB1, hb2, ho2, hkp, ho9⟩ := hrel
        obtain ⟨f, rfl⟩ : ∃ f, gk = f + 1 := by
          cases gk with
          | zero => cases hB1
          | succ f => exact ⟨f, rfl⟩
        have hib2 : i1 < 4000 := by omega
        have Hf1 := Hid.mk hf1
        have Hf2 := Hid.mk hf2
        have HB1 := Hid.mk hB1
        have Ho9 := Hid.mk ho9
        have hc := blk_cell hb2
        have hf := blk_frozen hb2
        have Hb2 := Hid.mk hb2
        have Ho2 := Hid.mk ho2
        clear hf1 hf2 hB1 ho9 hb2 ho2
        by_cases hgo : i1 < ds.length ∨ 0 < n1
        · have hgd : n1 / 2 ^ k < 10 ∧ n1 % 2 ^ k < 900000000000000000 := by
            refine Decidable.byContradiction fun hno => ?_
            have := HB1.out
            rw [halfB, if_pos hgo, if_neg hno] at this
            cases this
          obtain ⟨x0, hx0⟩ : ∃ x0, x0 = n1 / 2 ^ k := ⟨_, rfl⟩
          obtain ⟨y0, hy0⟩ : ∃ y0, y0 = n1 % 2 ^ k := ⟨_, rfl⟩
          rw [← hx0, ← hy0] at hgd
          obtain ⟨hgd1, hgd2⟩ := hgd
          have hqd : (n1 : Int) / 2 ^ k % 256 = (x0 : Int) := by
            have : (n1 : Int) / 2 ^ k = (x0 : Int) := by rw [hx0]; simp
            omega
          have Hx0 := Hid.mk (And.intro hx0 hy0)
          clear hx0 hy0
          by_cases hi : i1 < ds.length
          · clear hgo
            obtain ⟨g, x, rfl, hx, hx9, hxx, hxb⟩ := Hcells.out i1 hi
            have Hxx := Hid.mk hxx
            clear hxx
            have hmask := and_mask (n := n1) (k := k) hk hn9
            rw [← Hx0.out.2] at hmask
            go_wp2_with (at_builtin; refine wpList_app1 rfl _ _ rfl w.heap.size a1 o1.length c1 _ rfl (Ho2.out.alloc _) wr.heap.size 1 x0 rfl (by simp) (by have := Hf2.out; omega) (by have := hkp.size; simp; omega) ?_; intro a2 c2 w2 hown2 hgr2; have Hw2 := Hid.mk (And.intro (app_after hkp Ho2.out hgr2) hown2); clear hgr2 hown2; have hc2 := blk_cell (Hw2.out.1.2 _ _ hbl Hb2.out); have hf2 := blk_frozen (Hw2.out.1.2 _ _ hbl Hb2.out); have hx2 := Hw2.out.1.1.cell hx (by simpa using hxb))
            go_roundg f
            case measure => omega
            case rel =>
              refine ⟨y0 * 10 + x, i1 + 1, o1 ++ [x0], a2, c2, rfl, rfl, by simp, by omega, by have := Hf1.out; omega, by have := Hf2.out; simp; omega, ?_, Hw2.out.1.2 _ _ hbl Hb2.out, ?_, Hw2.out.1.1, mem_snoc Ho9.out hgd1⟩
              · rw [← HB1.out, halfB_go (.inl hi) (by rw [← Hx0.out.1, ← Hx0.out.2]; exact ⟨hgd1, hgd2⟩), ← Hx0.out.1, ← Hx0.out.2, ← Hxx.out]
              · simpa using Hw2.out.2
          · have hn1 : ((n1 : Int) == 0) = false := by simp; omega
            have hn2 : 0 < n1 := by omega
            clear hgo
            have hmask := and_mask (n := n1) (k := k) hk hn9
            rw [← Hx0.out.2] at hmask
            go_wp2_with (at_builtin; refine wpList_app1 rfl _ _ rfl w.heap.size a1 o1.length c1 _ rfl (Ho2.out.alloc _) wr.heap.size 1 x0 rfl (by simp) (by have := Hf2.out; omega) (by have := hkp.size; simp; omega) ?_; intro a2 c2 w2 hown2 hgr2; have Hw2 := Hid.mk (And.intro (app_after hkp Ho2.out hgr2) hown2); clear hgr2 hown2; have hc2 := blk_cell (Hw2.out.1.2 _ _ hbl Hb2.out); have hf2 := blk_frozen (Hw2.out.1.2 _ _ hbl Hb2.out))
            go_roundg f
            case measure => omega
            case rel =>
              refine ⟨y0 * 10, i1 + 1, o1 ++ [x0], a2, c2, rfl, rfl, by simp, by omega, by have := Hf1.out; omega, by have := Hf2.out; simp; omega, ?_, Hw2.out.1.2 _ _ hbl Hb2.out, ?_, Hw2.out.1.1, mem_snoc Ho9.out hgd1⟩
              · rw [← HB1.out, halfB_go (.inr hn2) (by rw [← Hx0.out.1, ← Hx0.out.2]; exact ⟨hgd1, hgd2⟩), ← Hx0.out.1, ← Hx0.out.2, getD_out (by omega)]; rfl
              · simpa using Hw2.out.2
        · have hi : ds.length ≤ i1 := by omega
          obtain rfl : n1 = 0 := by omega
          have heq : o1 = out := by
            have := HB1.out
            rw [halfB_end hgo] at this
            simpa using this
          have Heq := Hid.mk heq
          clear heq hgo
          go_wp2_with fail
          have hD : Dec B (wr.setCell ⟨b, 0, none⟩ (.slice a1 o1.length c1)) b o1 (dp - ((i : Int) - 1)) := by
            refine ⟨a1, c1, by rw [heap_setCell_same Hb2.out]; rfl, own_mono (own_setCell Ho2.out (fun k hk => by have := (Ho2.out.lt k hk).1; show k ≠ b; omega) _) hB, ?_, Ho9.out⟩
            intro g hg e
            subst hg
            have := (Ho2.out.lt g.block rfl).1
            omega
          refine (trim_any B b o1 _ _ hD).mono ?_
          rintro e w3 ⟨rfl, hq3, hk3⟩
          have Hq3 := Hid.mk hq3
          clear hq3 hD
          go_wp2_with fail
          refine bodyPost_end (results_none rfl _ _ _) rfl ⟨rfl, ?_, (hkp.setCell _ (.inl (by simp))).trans hk3⟩
          rw [Hout.out.2.1, Hout.out.2.2, ← Heq.out]
          exact Hq3.out
