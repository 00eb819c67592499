/- decimal.double computes what its mirror function says. Condition: the decimal lies in the memory as a row of digits. -/
import Derived.Test.YtpigmadopflfkaaGreatDoorDecB
import Derived.StillTailTactics
namespace Go.Proofs.YtpigmadopflfkaaGreatDoor
open Go.RowKit Go.BigFrame

def dblA (ds : List Nat) (k : Nat) : Nat → Nat → Int → List Nat → Option (List Nat)
  | 0, _, _, _ => none
  | f + 1, n, i, out =>
    if 0 ≤ i then (if n + ds.getD i.toNat 0 * 2 ^ k < 9000000000000000000 then dblA ds k f ((n + ds.getD i.toNat 0 * 2 ^ k) / 10) (i - 1) (out ++ [(n + ds.getD i.toNat 0 * 2 ^ k) % 10]) else none)
    else if 0 < n then dblA ds k f (n / 10) (i - 1) (out ++ [n % 10]) else some out
def revL : Nat → List Nat → Nat → Int → Option (List Nat)
  | 0, _, _, _ => none
  | f + 1, xs, i, j => if (i : Int) < j then revL f ((xs.set i (xs.getD j.toNat 0)).set j.toNat (xs.getD i 0)) (i + 1) (j - 1) else some xs
/-- What double makes of a decimal. -/
def dblF (k : Nat) (ds : List Nat) (dp : Int) : Option (List Nat × Int) :=
  match dblA ds k 2000 0 ((ds.length : Int) - 1) [] with
  | none => none
  | some out => match revL 2000 out 0 ((out.length : Int) - 1) with
    | none => none
    | some es => some (trimZ es, if trimZ es = [] then 0 else dp + ((out.length : Int) - ds.length))
theorem dblF_go {k : Nat} {ds : List Nat} {dp : Int} {es : List Nat} {q : Int} (h : dblF k ds dp = some (es, q)) :
    ∃ out xs, dblA ds k 2000 0 ((ds.length : Int) - 1) [] = some out ∧ revL 2000 out 0 ((out.length : Int) - 1) = some xs ∧ es = trimZ xs ∧ q = if trimZ xs = [] then 0 else dp + ((out.length : Int) - ds.length) := by
  unfold dblF at h
  split at h
  · cases h
  · rename_i out ho
    split at h
    · cases h
    · rename_i xs hx
      simp only [Option.some.injEq, Prod.mk.injEq] at h
      exact ⟨out, xs, ho, hx, h.1.symm, h.2.symm⟩

set_option maxRecDepth 100000 in
set_option maxHeartbeats 1000000 in
theorem double_any (B b : Nat) (ds : List Nat) (k : Nat) (dp : Int) (w : World) (hB : B ≤ w.heap.size) (hk : k ≤ 59) (hl : ds.length < 1000000) (h1 : -1000000 ≤ dp) (h2 : dp ≤ 1000000) (hd : Dec B w b ds dp) (es : List Nat) (q : Int) (hF : dblF k ds dp = some (es, q)) :
    Calls Tryz.prog 169 #[.pointer (some ⟨b, 0, none⟩), .int .i64 k] w fun e w' =>
      e = .returned (.tuple #[]) ∧ Dec B w' b es q ∧ Kp [b] w w' := by
  obtain ⟨out, xs, hA, hR, hes, hq⟩ := dblF_go hF
  have HF := Hid.mk (And.intro hA (And.intro hR (And.intro hes hq)))
  have Hd := Hid.mk hd
  obtain ⟨a, cap, hb, ho, hne, hd9⟩ := hd
  clear hF hA hR hes hq
  have hbl := lt_of_heap hb
  have hc := blk_cell hb
  have hf := blk_frozen hb
  have Hb := Hid.mk hb
  have Ho := Hid.mk ho
  obtain ⟨hcap, hcap2⟩ := own_cap ho
  have hcells : ∀ i, i < ds.length → ∃ g x, a = some ⟨g, 0, none⟩ ∧ w.cell? ⟨g, i, none⟩ = some (dig x) ∧ x < 10 ∧ x = ds.getD i 0 ∧ g ≠ b := by
    intro i hi
    obtain ⟨g, rfl, _, _, h⟩ := own_some ho (by omega)
    refine ⟨g, ds.getD i 0, rfl, h i _ (by simp [hi]), ?_, rfl, hne _ rfl⟩
    simp only [List.getD_eq_getElem?_getD, List.getElem?_eq_getElem hi, Option.getD_some]
    exact hd9 _ (List.getElem_mem hi)
  clear ho hb hne hd9
  have Hcells := Hid.mk hcells
  clear hcells
  go_enter Tryz.func169, Tryz.ntmps169
  go_wp2
  clear hc hf
  go_loopg [4, 5, 6] 2000 (fun f n' v i' w2 => ∃ (n1 : Nat) (i1 : Int) (o1 : List Nat) (a1 : Option Addr) (c1 : Nat), n' = .int .u64 n1 ∧ i' = .int .i64 i1 ∧ v = .slice a1 o1.length c1 ∧ n1 < 1000000000000000000 ∧
        i1 < ds.length ∧ -2001 ≤ i1 - f ∧ o1.length + f = 2000 ∧ dblA ds k f n1 i1 o1 = some out ∧ w2.heap[b]? = some (.cells #[.slice a ds.length cap, .int .i64 dp] 195) ∧
        w2.ownsRow w.heap.size 5 1 (.slice a1 o1.length c1) o1.length (o1.map dig) ∧ Kp [b] w w2 ∧ ∀ d ∈ o1, d < 10)
  case atStart =>
    exact ⟨0, (ds.length : Int) - 1, [], none, 0, rfl, rfl, rfl, by decide, by omega, by omega, rfl, HF.out.1, Hb.out, World.ownsRow_nil _ _ _ _, Kp.refl _ _, by simp⟩
  case round =>
    obtain ⟨n1, i1, o1, a1, c1, rfl, rfl, rfl, hn9, hil, hf1, hf2, hB1, hb2, ho2, hkp, ho9⟩ := hrel
    obtain ⟨f, rfl⟩ : ∃ f, gk = f + 1 := by
      cases gk with
      | zero => cases hB1
      | succ f => exact ⟨f, rfl⟩
    have hib2 : -4003 ≤ i1 := by omega
    have Hf1 := Hid.mk hf1
    have Hf2 := Hid.mk hf2
    have HB1 := Hid.mk hB1
    have Ho9 := Hid.mk ho9
    have hc := blk_cell hb2
    have hf := blk_frozen hb2
    have Hb2 := Hid.mk hb2
    have Ho2 := Hid.mk ho2
    clear hf1 hf2 hB1 ho9 hb2 ho2
    by_cases hi : 0 ≤ i1
    · obtain ⟨i2, rfl⟩ := Int.eq_ofNat_of_zero_le hi
      have hi2 : i2 < ds.length := by omega
      obtain ⟨g, x, rfl, hx, hx9, hxx, hxb⟩ := Hcells.out i2 hi2
      have Hxx := Hid.mk hxx
      clear hxx
      have hgd : n1 + x * 2 ^ k < 9000000000000000000 := by
        refine Decidable.byContradiction fun hno => ?_
        have := HB1.out
        rw [dblA, if_pos hi, Int.toNat_natCast, ← Hxx.out, if_neg hno] at this
        cases this
      have hx1 := hkp.cell hx (by simpa using hxb)
      obtain ⟨y, hy⟩ : ∃ y, y = x * 2 ^ k := ⟨_, rfl⟩
      rw [← hy] at hgd
      have hw1 : IntKind.u64.wrap ((x : Int) * 2 ^ k) = (y : Int) := by
        rw [IntKind.wrap_u64, show ((x : Int) * 2 ^ k) = (y : Int) by rw [hy]; simp]; omega
      have Hy := Hid.mk hy
      clear hy
      go_wp2_with (at_builtin; refine wpList_app1 rfl _ _ rfl w.heap.size a1 o1.length c1 _ rfl (Ho2.out.alloc _) wr.heap.size 1 (((n1 : Int) + y) % 10) rfl (by simp) (by have := Hf2.out; omega) (by have := hkp.size; simp; omega) ?_; intro a2 c2 w2 hown2 hgr2; have Hw2 := Hid.mk (And.intro (app_after hkp Ho2.out hgr2) hown2); clear hgr2 hown2; have hc2 := blk_cell (Hw2.out.1.2 _ _ hbl Hb2.out); have hf2 := blk_frozen (Hw2.out.1.2 _ _ hbl Hb2.out))
      go_roundg f
      case measure => omega
      case rel =>
        refine ⟨(n1 + y) / 10, i2 - 1, o1 ++ [(n1 + y) % 10], a2, c2, by simp, rfl, by simp, by omega, by omega, by have := Hf1.out; omega, by have := Hf2.out; simp; omega, ?_, Hw2.out.1.2 _ _ hbl Hb2.out, ?_, Hw2.out.1.1, mem_snoc Ho9.out (by omega)⟩
        · have := HB1.out
          rw [dblA, if_pos hi, Int.toNat_natCast, ← Hxx.out, ← Hy.out, if_pos hgd] at this
          exact this
        · simpa [dig] using Hw2.out.2
    · by_cases hn : 0 < n1
      · go_wp2_with (at_builtin; refine wpList_app1 rfl _ _ rfl w.heap.size a1 o1.length c1 _ rfl (Ho2.out.alloc _) wr.heap.size 1 ((n1 : Int) % 10) rfl (by simp) (by have := Hf2.out; omega) (by have := hkp.size; simp; omega) ?_; intro a2 c2 w2 hown2 hgr2; have Hw2 := Hid.mk (And.intro (app_after hkp Ho2.out hgr2) hown2); clear hgr2 hown2; have hc2 := blk_cell (Hw2.out.1.2 _ _ hbl Hb2.out); have hf2 := blk_frozen (Hw2.out.1.2 _ _ hbl Hb2.out))
        go_roundg f
        case measure => omega
        case rel =>
          refine ⟨n1 / 10, i1 - 1, o1 ++ [n1 % 10], a2, c2, by simp, rfl, by simp, by omega, by omega, by have := Hf1.out; omega, by have := Hf2.out; simp; omega, ?_, Hw2.out.1.2 _ _ hbl Hb2.out, ?_, Hw2.out.1.1, mem_snoc Ho9.out (by omega)⟩
          · have := HB1.out
            rw [dblA, if_neg (by omega), if_pos hn] at this
            exact this
          · simpa [dig] using Hw2.out.2
      · obtain rfl : n1 = 0 := by omega
        have heq : o1 = out := by
          have := HB1.out
          rw [dblA, if_neg hi, if_neg hn] at this
          simpa using this
        have Heq := Hid.mk heq
        clear heq
        have hlen : o1.length ≤ 2000 := by have := Hf2.out; omega
        go_wp2_with fail
        go_still_tail 13, (by kernel_rfl)
        change wpList _ _ _ _ _ wr.drew
        go_wp2_with fail
        clear hc hf
        have hb3 : (wr.setCell ⟨b, 1, none⟩ (.int .i64 (dp + ((o1.length : Int) - ds.length)))).drew.heap[b]? = some (.cells #[.slice a ds.length cap, .int .i64 (dp + ((o1.length : Int) - ds.length))] 195) := by
          show (wr.setCell ⟨b, 1, none⟩ (.int .i64 (dp + ((o1.length : Int) - ds.length)))).heap[b]? = _
          rw [heap_setCell_same Hb2.out]; rfl
        have ho3 : (wr.setCell ⟨b, 1, none⟩ (.int .i64 (dp + ((o1.length : Int) - ds.length)))).drew.ownsRow w.heap.size 5 1 (.slice a1 o1.length c1) o1.length (o1.map dig) :=
          own_setCell Ho2.out (fun k hk => by have := (Ho2.out.lt k hk).1; show k ≠ b; omega) _
        have hk3 : Kp [b] w (wr.setCell ⟨b, 1, none⟩ (.int .i64 (dp + ((o1.length : Int) - ds.length)))).drew := (hkp.setCell _ (.inl (by simp))).drew
        have HR := Hid.mk HF.out.2.1
        obtain ⟨wo, hwo⟩ : ∃ wo : World, wo = wr := ⟨_, rfl⟩
        go_loopg [7, 8] 2000 (fun f ii jj w2 => ∃ (i2 : Nat) (j2 : Int) (ys : List Nat), ii = .int .i64 i2 ∧ jj = .int .i64 j2 ∧ ys.length = o1.length ∧ j2 < o1.length ∧ -1 ≤ j2 - f + 2000 ∧ i2 + f = 2000 ∧ revL f ys i2 j2 = some xs ∧
          w2.heap[b]? = some (.cells #[.slice a ds.length cap, .int .i64 (dp + ((o1.length : Int) - ds.length))] 195) ∧ w2.ownsRow w.heap.size 5 1 (.slice a1 o1.length c1) o1.length (ys.map dig) ∧ Kp [b] w w2 ∧ ∀ d ∈ ys, d < 10)
        case atStart =>
          refine ⟨0, (o1.length : Int) - 1, o1, rfl, rfl, rfl, by omega, by omega, by omega, ?_, ?_⟩
          · rw [← HR.out, Heq.out]
          · exact ⟨hb3, ho3, hk3, Ho9.out⟩
        case round =>
          obtain ⟨i2, j2, ys, rfl, rfl, hyl, hj1, hj2, hif, hrv, hb4, ho4, hk4, hy9⟩ := hrel
          obtain ⟨f, rfl⟩ : ∃ f, gk = f + 1 := by
            cases gk with
            | zero => cases hrv
            | succ f => exact ⟨f, rfl⟩
          clear hb3 ho3 hk3 hwo HR
          have hc := blk_cell hb4
          have hf := blk_frozen hb4
          have Hb4 := Hid.mk hb4
          have Ho4 := Hid.mk ho4
          have Hrv := Hid.mk hrv
          have Hyl := Hid.mk hyl
          have Hy9 := Hid.mk hy9
          have Hif := Hid.mk hif
          have hi3 : i2 ≤ 2000 := by omega
          have hj3 : -3000 ≤ j2 := by omega
          clear hb4 hrv hyl hy9 hif
          by_cases hlt : (i2 : Int) < j2
          · obtain ⟨j3, rfl⟩ := Int.eq_ofNat_of_zero_le (show 0 ≤ j2 by omega)
            have hj4 : j3 < o1.length := by omega
            have hij : i2 < j3 := by omega
            obtain ⟨g, rfl, hg1, hg2, hcells⟩ := own_some ho4 (by omega)
            have hx1 := hcells i2 (dig (ys.getD i2 0)) (by simp [Hyl.out, show i2 < o1.length by omega])
            have hx2 := hcells j3 (dig (ys.getD j3 0)) (by simp [Hyl.out, hj4])
            have hfg := own_unfrozen ho4
            obtain ⟨x1, e1⟩ : ∃ x, x = ys.getD i2 0 := ⟨_, rfl⟩
            obtain ⟨x2, e2⟩ : ∃ x, x = ys.getD j3 0 := ⟨_, rfl⟩
            rw [← e1] at hx1
            rw [← e2] at hx2
            have hx3 : (wr.setCell ⟨g, i2, none⟩ (dig x2)).cell? ⟨g, j3, none⟩ = some (dig x2) := by
              rw [World.cell?_setCell_other _ _ _ _ (by intro e; cases e; omega)]; exact hx2
            have E := Hid.mk (And.intro e1 e2)
            clear hcells e1 e2 ho4 hc hf
            go_wp2_with fail
            go_region
            go_wp2_with fail
            go_roundg f
            case measure => omega
            case rel =>
              have hgb : b ≠ g := by omega
              refine ⟨i2 + 1, (j3 : Int) - 1, (ys.set i2 x2).set j3 x1, rfl, rfl, by simp [Hyl.out], by omega, by omega, by have := Hif.out; omega, ?_, ?_, ?_, ((hk4.setCell _ (.inr hg1)).setCell _ (.inr hg1)).drew, ?_⟩
              · have := Hrv.out
                rw [revL, if_pos hlt, Int.toNat_natCast, ← E.out.1, ← E.out.2] at this
                exact this
              · show ((wr.setCell ⟨g, i2, none⟩ (.int .u8 x2)).setCell ⟨g, j3, none⟩ (.int .u8 x1)).heap[b]? = _
                rw [heap_setCell_other hgb, heap_setCell_other hgb]
                exact Hb4.out
              · have := own_setAt (own_setAt Ho4.out (i := i2) (dig x2)) (i := j3) (dig x1)
                rw [← List.map_set, ← List.map_set] at this
                exact this
              · have h1 : x1 < 10 := by
                  rw [E.out.1]; exact Hy9.out _ (by rw [List.getD_eq_getElem?_getD, List.getElem?_eq_getElem (by rw [Hyl.out]; omega)]; exact List.getElem_mem _)
                have h2 : x2 < 10 := by
                  rw [E.out.2]; exact Hy9.out _ (by rw [List.getD_eq_getElem?_getD, List.getElem?_eq_getElem (by rw [Hyl.out]; omega)]; exact List.getElem_mem _)
                intro d hd
                rcases List.mem_or_eq_of_mem_set hd with hd | rfl
                · rcases List.mem_or_eq_of_mem_set hd with hd | rfl
                  · exact Hy9.out d hd
                  · exact h2
                · exact h1
          · have hys : ys = xs := by
              have := Hrv.out
              rw [revL, if_neg hlt] at this
              simpa using this
            have Hys := Hid.mk hys
            clear hys ho4
            go_wp2_with fail
            have hD : Dec B (wr.setCell ⟨b, 0, none⟩ (.slice a1 o1.length c1)) b ys (dp + ((o1.length : Int) - ds.length)) := by
              refine ⟨a1, c1, by rw [heap_setCell_same Hb4.out, Hyl.out]; simp, ?_, ?_, Hy9.out⟩
              · rw [Hyl.out]
                exact own_mono (own_setCell Ho4.out (fun k hk => by have := (Ho4.out.lt k hk).1; show k ≠ b; omega) _) hB
              · intro g hg e
                subst hg
                have := (Ho4.out.lt g.block rfl).1
                omega
            refine (trim_any B b ys _ _ hD).mono ?_
            rintro e w3 ⟨rfl, hq3, hk3⟩
            have Hq3 := Hid.mk hq3
            clear hq3 hD
            go_wp2_with fail
            refine bodyPost_end (results_none rfl _ _ _) rfl ⟨rfl, ?_, (hk4.setCell _ (.inl (by simp))).trans hk3⟩
            rw [HF.out.2.2.1, HF.out.2.2.2, ← Heq.out, ← Hys.out]
            exact Hq3.out
end Go.Proofs.YtpigmadopflfkaaGreatDoor
