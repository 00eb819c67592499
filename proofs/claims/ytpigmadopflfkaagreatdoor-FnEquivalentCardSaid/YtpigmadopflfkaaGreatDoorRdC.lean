/- The reading of a number in a text of JSON. Condition: it is the text of a plain document. -/
import Derived.Test.YtpigmadopflfkaaGreatDoorRdB
import Derived.Maps.Own
import Derived.MapKept
import Derived.ChangeMaps4
namespace Go.Proofs.YtpigmadopflfkaaGreatDoor
open Go.RowKit Go.BigFrame

/-- A new entry of a map whose keys are texts. -/
theorem wpList_mapPut {ops : Array Oper} {rest : List Oper} {o : Oper} {a : Act} {Q : Exit → Act → World → Prop} {w : World} (hgd : o.guard = none) (m x v : Operand)
    (ho : o.op = .mapUpdate 121 m x v) (r : Nat) (es : Array MapEntry) (clock : Nat) (k : ByteArray) (val : Value)
    (hm : a.eval m = .map (some r)) (hx : a.eval x = .string k) (hv : a.eval v = val) (hb : w.heap[r]? = some (.map es clock)) (hnew : Instr.findNow .string (.string k) es.toList 0 = some none)
    (h : ∀ w', w'.heap[r]? = some (.map (es.push ⟨.string k, val, clock⟩) (clock + 1)) → Kp [r] w w' → w'.heap.size = w.heap.size → wpList Tryz.prog ops Q rest (a.put o.dst undef) w') :
    wpList Tryz.prog ops Q (o :: rest) a w := by
  refine wpList_plain hgd fun K' hK' => ?_
  have hrun : (Instr.mapUpdate 121 (.map (some r)) (.string k) val).run Tryz.prog w = .ok () { w with heap := w.heap.setIfInBounds r (.map (es.push ⟨.string k, val, clock⟩) (clock + 1)) } := by
    simp [Instr.mapUpdate, run_underlying Tryz.underlying121, MapKept.run_getObj_map hb, MapKept.run_checkKey Tryz.underlying9 (show MapKept.IsKey .string (.string k) by simp [MapKept.IsKey]), MapKept.run_findKey Tryz.underlying9 hnew, MapKept.run_setObj_map _ hb, Result.andThen]
  unfold Oper.wp
  simp [execOp, ho, hm, hx, hv, hrun, Result.andThen]
  refine hK' _ _ (h _ ?_ ?_ ?_)
  · exact (MapKept.heap_set hb).1
  · exact ⟨rfl, rfl, rfl, by simp, fun i _ hn => (MapKept.heap_set hb).2 i (by simpa using hn)⟩
  · simp

/-- The number's bits. -/
def fb (x : Num) : Nat := if x.1 then 9223372036854775808 + (pfF x.2).getD 0 else (pfF x.2).getD 0
structure NumV (x : Num) : Prop where
  ok : NumOk x
  val : ∃ r, pfF x.2 = some r ∧ r < 9223372036854775808
abbrev fv (x : Num) : Value := .iface 87 (.float .f64 (fb x))
def JV : J → Prop
  | .num x => NumV x
  | .arr l => ∀ x ∈ l, NumV x
  | .obj1 k a => keyOk k ∧ JV a
  | .obj2 k a m b => keyOk k ∧ keyOk m ∧ k < m ∧ JV a ∧ JV b
theorem JV.ok {a : J} : JV a → JOk a := by
  induction a with
  | num x => exact fun h => NumV.ok h
  | arr l => exact fun h x hx => (h x hx).ok
  | obj1 k a ih => exact fun h => ⟨h.1, ih h.2⟩
  | obj2 k a m b iha ihb => exact fun h => ⟨h.1, h.2.1, h.2.2.1, iha h.2.2.2.1, ihb h.2.2.2.2⟩
abbrev ent (k : Nat) (v : Value) (n : Nat) : MapEntry := ⟨.string (txt [k]), v, n⟩
/-- This value of the memory is this document; all that it holds lies at B or above. -/
def Rep (B : Nat) (w : World) : J → Value → Prop
  | .num x, v => v = fv x
  | .arr l, v => ∃ a cap, v = .iface 119 (.slice a l.length cap) ∧ w.ownsRow B 20 1 (.slice a l.length cap) l.length (l.map fv)
  | .obj1 k a, v => ∃ r va, v = .iface 121 (.map (some r)) ∧ B ≤ r ∧ w.heap[r]? = some (.map #[ent k va 0] 1) ∧ Rep B w a va
  | .obj2 k a m b, v => ∃ r va vb, v = .iface 121 (.map (some r)) ∧ B ≤ r ∧ w.heap[r]? = some (.map #[ent k va 0, ent m vb 1] 2) ∧ Rep B w a va ∧ Rep B w b vb
theorem Rep.kept {B : Nat} {w w' : World} {S : List Nat} (hk : Kp S w w') (hS : ∀ i ∈ S, i < B) : ∀ {j : J} {v : Value}, Rep B w j v → Rep B w' j v
  | .num _, _, h => h
  | .arr _, _, ⟨a, cap, h1, h2⟩ => ⟨a, cap, h1, hk.owns h2 (fun k hk' e => by have := (h2.lt k hk').1; have := hS k e; omega)⟩
  | .obj1 _ _, _, ⟨r, va, h1, h2, h3, h4⟩ => ⟨r, va, h1, h2, hk.at h3 (fun e => by have := hS r e; omega), h4.kept hk hS⟩
  | .obj2 _ _ _ _, _, ⟨r, va, vb, h1, h2, h3, h4, h5⟩ => ⟨r, va, vb, h1, h2, hk.at h3 (fun e => by have := hS r e; omega), h4.kept hk hS, h5.kept hk hS⟩
theorem Rep.mono {B B' : Nat} {w : World} (hB : B' ≤ B) : ∀ {j : J} {v : Value}, Rep B w j v → Rep B' w j v
  | .num _, _, h => h
  | .arr _, _, ⟨a, cap, h1, h2⟩ => ⟨a, cap, h1, own_mono h2 hB⟩
  | .obj1 _ _, _, ⟨r, va, h1, h2, h3, h4⟩ => ⟨r, va, h1, by omega, h3, h4.mono hB⟩
  | .obj2 _ _ _ _, _, ⟨r, va, vb, h1, h2, h3, h4, h5⟩ => ⟨r, va, vb, h1, by omega, h3, h4.mono hB, h5.mono hB⟩

theorem parse_num (x : Num) (w : World) (hx : NumV x) :
    Calls Tryz.prog 94 #[.string (txt (ncodes x)), .int .i64 64] w fun e w' => e = .returned (.tuple #[.float .f64 (fb x), .nilIface]) ∧ Kp [] w w' := by
  obtain ⟨hok, r, hr, hr2⟩ := hx
  obtain ⟨neg, ds⟩ := x
  obtain ⟨h1, h2, h3, h4⟩ := hok
  simp only at h1 h2 h3 h4 hr
  rw [← nstrOf_txt]
  cases neg
  · have := parse_pos ds w (by omega) h1 h3 r hr hr2
    simpa [nstrOf, fb, hr] using this
  · have := parse_neg ds w (by omega) h1 h3 r hr hr2
    simpa [nstrOf, fb, hr] using this

/-- What reader.value gives where a document stands. -/
def ValOk (a : J) : Prop := ∀ (s : ByteArray) (b i : Nat) (w : World), s.size < 1000000 → JV a → At s i (enc a) → Stop s (i + (enc a).length) → Rdr w b s i →
  Calls Tryz.prog 63 #[.pointer (some ⟨b, 0, none⟩)] w fun e w' => ∃ v, e = .returned v ∧ Rep w.heap.size w' a v ∧ Rdr w' b s (i + (enc a).length) ∧ Kp [b] w w'

set_option maxRecDepth 100000 in
set_option maxHeartbeats 1000000 in
theorem value_num (x : Num) : ValOk (.num x) := by
  intro s b i w hs hv hat hst hr
  replace hv : NumV x := hv
  replace hat : At s i (ncodes x) := hat
  replace hst : Stop s (i + (ncodes x).length) := hst
  obtain ⟨c, r, hc, hc2⟩ := ncodes_head hv.ok
  have h1 := hat
  rw [hc] at h1
  obtain ⟨⟨h2, h3⟩, _⟩ := h1.cons
  have hnb : NB s i := nb_of ⟨h2, h3⟩ (by omega)
  have e1 : ((c : Int) == 123) = false := by simp; omega
  have e2 : ((c : Int) == 91) = false := by simp; omega
  have e3 : ((c : Int) == 34) = false := by simp; omega
  have e4 : ((c : Int) == 116) = false := by simp; omega
  have e5 : ((c : Int) == 102) = false := by simp; omega
  have e6 : ((c : Int) == 110) = false := by simp; omega
  have hsz := hat.size (Nat.le_of_lt h2)
  have hex := hat.extract (Nat.le_of_lt h2)
  obtain ⟨m, hm⟩ : ∃ m, m = i + (ncodes x).length := ⟨_, rfl⟩
  rw [← hm] at hsz hex hst
  have him : i ≤ m := by omega
  have hsc := fun W => scanNum_any s x i W hs hv.ok hat (by rw [← hm]; exact hst)
  rw [← hm] at hsc
  have Hsc := Hid.mk hsc
  clear hsc
  have H := Hid.mk (And.intro hv (And.intro hat (And.intro hst (And.intro hnb hm))))
  have Hex := Hid.mk hex
  clear hv hat hst hnb hc hc2 h1 hm hex
  have hr1 : Rdr (w.drew.setCell ⟨b, 1, none⟩ (.int .i64 i)) b s i := Rdr.setAt (w := w.drew) hr _ rfl
  have Hr1 := Hid.mk hr1
  have hcc := blk_cell hr
  have hff := blk_frozen hr
  clear hr hr1
  go_enter Tryz.func63, Tryz.ntmps63
  go_wp2_with fail
  go_still_tail 10, (by kernel_rfl)
  still_call (still_ok (skip_nb s i _ H.out.2.2.2.1))
  refine wpStill_nil ?_
  change wpList _ _ _ _ _ w.drew
  go_wp2_with fail
  obtain ⟨w1, hw1⟩ : ∃ w1, w1 = (w.setCell ⟨b, 1, none⟩ (.int .i64 (i : Int))).drew := ⟨_, rfl⟩
  have Hk1 : Hid (Kp [b] w w1) := Hid.mk (by rw [hw1]; exact ((Kp.refl _ _).setCell _ (.inl (by simp))).drew)
  have hr2 : Rdr w1 b s i := by rw [hw1]; exact Hr1.out
  have hcc := blk_cell hr2
  have hff := blk_frozen hr2
  have Hr2 := Hid.mk hr2
  rw [← hw1]
  clear hw1 Hr1 hr2
  go_quiet (fail)
  go_wp2_with fail
  go_quiet ((go_at_call 57; exact (Hsc.out _).mono fun _ _ h => ⟨h.1, _, h.2.symm⟩))
  go_wp2_with fail
  go_quiet (fail)
  go_wp2_with fail
  rw [Hex.out]
  refine (parse_num x _ H.out.1).mono ?_
  rintro e w2 ⟨rfl, hk2⟩
  have Hk2 := Hid.mk hk2
  clear hk2
  go_wp2_with fail
  go_ret
  refine ⟨_, rfl, rfl, ?_, ?_⟩
  · refine Rdr.kept ?_ Hk2.out (by simp)
    refine Rdr.setAt (i := i) ?_ _ (by have := H.out.2.2.2.2; simp [enc]; omega)
    exact Hr2.out
  · refine Kp.trans' ?_ Hk2.out (by simp)
    refine Kp.setCell ?_ _ (.inl (by simp))
    exact (Hk1.out.drewN _)
end Go.Proofs.YtpigmadopflfkaaGreatDoor
