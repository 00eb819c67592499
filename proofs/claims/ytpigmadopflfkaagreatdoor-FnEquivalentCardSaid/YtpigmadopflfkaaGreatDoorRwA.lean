/- The law returns true at all its inputs; the two package variables that strconv reads hold what start-up lays. Condition: the listed variables read as listed. -/
import Derived.Test.YtpigmadopflfkaaGreatDoorRows
import Derived.Test.YtpigmadopflfkaaGreatDoorLwG
import Derived.ProofKit
import Derived.OpenShut
import Derived.LaidMore
import Derived.Lay
import Derived.Deep.Strs
import Derived.Stop.Joined
namespace Go.Proofs.YtpigmadopflfkaaGreatDoor
open Go.ChangeShapes Go.WideShapes Go.ChangeAt Go.RowKit

theorem law_any (v0 v1 : Value) (l os : List Int) (m : Nat) (w : World) (hg : GL w) (hv : I8 w v0 l) (hu : U8 w v1 os) (hx : ∀ x ∈ l, -128 ≤ x ∧ x ≤ 127) (hm : m < 256) :
    Calls Tryz.prog 3 #[v0, v1, .int .u8 m] w fun e w' => e = .returned (.bool true) ∧ Kp [] w w' := by
  by_cases hb : 2147483647 < l.length ∨ 2147483647 < os.length
  · obtain ⟨s0, c0, rfl, _⟩ := hv
    obtain ⟨s1, c1, rfl, _⟩ := hu
    exact law_big s0 s1 l.length c0 os.length c1 m w hb
  · by_cases h40 : 40 < l.length
    · obtain ⟨s0, c0, rfl, _⟩ := hv
      obtain ⟨s1, c1, rfl, _⟩ := hu
      exact law_long s0 s1 l.length c0 os.length c1 m w hg (by omega) (by omega) h40
    · exact law_small v0 v1 l os m w hg hv hu (by omega) hx (by omega) hm

theorem own : ownKnob Tryz.prog.godebug = none := by kernel_rfl
theorem laidOut : laidOutB Tryz.prog = true := by kernel_rfl
theorem cells25 : Tryz.prog.cellsOf 25 = 1 := by kernel_rfl
theorem cells5 : Tryz.prog.cellsOf 5 = 1 := by kernel_rfl
theorem gl_of {W : World} (h : laidMetH Tryz.prog Rows.fnEquivalentRow.laid W) : GL W := by
  rw [MakeChecks.laidMetH_plain _ _ _ (by kernel_rfl)] at h
  obtain ⟨ps, h, _, _⟩ := h
  obtain ⟨_, _, _, _, _, _, _, _, _, _, h, _⟩ := h
  obtain ⟨_, _, _, _, _, _, _, _, _, _, h, _⟩ := h
  obtain ⟨_, _, _, _, _, _, _, _, _, _, h, _⟩ := h
  obtain ⟨g7, t7, cs7, f7, p7, q7, hg7, ht7, hv7, hd7, h, _⟩ := h
  obtain ⟨g6, t6, cs6, f6, p6, q6, hg6, ht6, hv6, hd6, _, _⟩ := h
  obtain rfl := Option.some.inj ((show Tryz.prog.globalNamed "internal/strconv.float64info" = some 7 by kernel_rfl).symm.trans hg7)
  obtain rfl := Option.some.inj ((show (Tryz.prog.globals[7]?).map (·.type) = some 262 by kernel_rfl).symm.trans ht7)
  obtain rfl := Option.some.inj ((show Tryz.prog.globalNamed "internal/strconv.optimize" = some 6 by kernel_rfl).symm.trans hg6)
  obtain rfl := Option.some.inj ((show (Tryz.prog.globals[6]?).map (·.type) = some 4 by kernel_rfl).symm.trans ht6)
  constructor
  · obtain ⟨b, hb, he⟩ := DataW.trod_bool Tryz.underlying4 hd6
    have hbt : b = true := by
      have h1 := (Prod.mk.inj he).1
      unfold Rows.laid_internal_strconv_optimize at h1
      injection h1 with h2
      injection h2 with h3
      exact h3.symm
    subst hbt
    rw [World.var?_cell hg6 hv6 0]
    rw [← Array.getElem?_toList, hb]
    rfl
  · obtain ⟨y0, y1, y2, n, he, hl, h0, _, _⟩ := Go.Deep.trod_struct3 Tryz.underlying262 hd7
    obtain ⟨z, e1, e2, _⟩ := DataW.trod_int Tryz.underlying104 h0
    have hz : z = 52 := by
      have h1 : (DataW.agg [.lit (.int .u64 52), .lit (.int .u64 11), .lit (.int .i64 (-1023))] : DataW Unit) = .agg [y0.1, y1.1, y2.1] := (Prod.mk.inj he).1
      have h3 : (DataW.lit (.int .u64 52) : DataW Unit) = y0.1 := (List.cons.inj (DataW.agg.inj h1)).1
      rw [e2] at h3
      exact (Lit.int.inj (DataW.lit.inj h3)).2.symm
    subst hz
    rw [World.var?_cell hg7 hv7 0]
    rw [← Array.getElem?_toList]
    have c104 : Tryz.prog.cellsOf 104 = 1 := by kernel_rfl
    have h2 : (cs7.toList.drop 0).take (Tryz.prog.cellsOf 104) = [.int .u64 52] := e1
    rw [c104, List.drop_zero] at h2
    have h3 : (cs7.toList.take 1)[0]? = some (.int .u64 52) := by rw [h2]; rfl
    simpa using h3
end Go.Proofs.YtpigmadopflfkaaGreatDoor
