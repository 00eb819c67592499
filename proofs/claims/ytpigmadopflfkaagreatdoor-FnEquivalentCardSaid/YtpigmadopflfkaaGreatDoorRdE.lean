/- The reading of an object in a text of JSON. Condition: it is the text of a plain document. -/
import Derived.Test.YtpigmadopflfkaaGreatDoorRdD
namespace Go.Proofs.YtpigmadopflfkaaGreatDoor
open Go.RowKit Go.BigFrame

theorem txt_ne {k m : Nat} (hk : keyOk k) (hm : keyOk m) (h : k ≠ m) : txt [k] ≠ txt [m] := by
  intro e
  have h1 := congrArg (fun s : ByteArray => s.data.toList) e
  simp [txt] at h1
  have h2 := congrArg UInt8.toNat h1
  obtain ⟨a1, a2⟩ := hk
  obtain ⟨b1, b2⟩ := hm
  simp at h2
  omega
theorem txt_beq {k m : Nat} (hk : keyOk k) (hm : keyOk m) (h : k ≠ m) : (txt [k] == txt [m]) = false := by
  rw [← Bool.not_eq_true]
  exact fun e => txt_ne hk hm h ((MapKept.bytes_beq _ _).1 e)

/-- A new entry of a map whose keys are texts. -/
theorem mapPut_run {w : World} {r : Nat} {es : Array MapEntry} {clock : Nat} {k : ByteArray} (val : Value) (hb : w.heap[r]? = some (.map es clock)) (hnew : Instr.findNow .string (.string k) es.toList 0 = some none) :
    ∃ w', (Instr.mapUpdate 121 (.map (some r)) (.string k) val).run Tryz.prog w = .ok () w' ∧ w'.heap[r]? = some (.map (es.push ⟨.string k, val, clock⟩) (clock + 1)) ∧ Kp [r] w w' ∧ w'.heap.size = w.heap.size := by
  refine ⟨{ w with heap := w.heap.setIfInBounds r (.map (es.push ⟨.string k, val, clock⟩) (clock + 1)) }, ?_, (MapKept.heap_set hb).1, ⟨rfl, rfl, rfl, by simp, fun i _ hn => (MapKept.heap_set hb).2 i (by simpa using hn)⟩, by simp⟩
  simp [Instr.mapUpdate, run_underlying Tryz.underlying121, MapKept.run_getObj_map hb, MapKept.run_checkKey Tryz.underlying9 (show MapKept.IsKey .string (.string k) by simp [MapKept.IsKey]), MapKept.run_findKey Tryz.underlying9 hnew, MapKept.run_setObj_map _ hb, Result.andThen]

set_option maxRecDepth 100000 in
set_option maxHeartbeats 2000000 in
theorem value_obj1 (k : Nat) (a : J) (ih : ValOk a) : ValOk (.obj1 k a) := by
  intro s b i w hs hv hat hst hr
  have hv : keyOk k ∧ JV a := hv
  obtain ⟨h0, hat1⟩ := At.cons (show At s i (123 :: 34 :: k :: 34 :: 58 :: (enc a ++ [125])) from hat)
  obtain ⟨q4, q5, m, M, _⟩ := Memb.of hat1
  have hmm : m + 1 = i + (enc (.obj1 k a)).length := by
    have := M.em
    have := M.e5
    have := M.e4
    simp [enc]
    omega
  rw [← hmm] at hst
  have HM0 := Hid.mk M
  clear M hat1
  have hnb : NB s i := nb_of h0 (by decide)
  obtain ⟨h2, h3⟩ := h0
  have H := Hid.mk (And.intro hv (And.intro hat (And.intro hst (And.intro hnb hmm))))
  clear hv hat hst hnb hmm
  have hr1 : Rdr (w.drew.setCell ⟨b, 1, none⟩ (.int .i64 i)) b s i := Rdr.setAt (w := w.drew) hr _ rfl
  have Hr1 := Hid.mk hr1
  have hcc := blk_cell hr
  have hff := blk_frozen hr
  have Hb := Hid.mk (lt_of_heap hr)
  clear hr hr1
  go_enter Tryz.func63, Tryz.ntmps63
  go_wp2_with fail
  go_still_tail 10, (by kernel_rfl)
  still_call (still_ok (skip_nb s i _ H.out.2.2.2.1))
  refine wpStill_nil ?_
  change wpList _ _ _ _ _ w.drew
  go_wp2_with fail
  obtain ⟨w1, hw1⟩ : ∃ w1, w1 = (w.setCell ⟨b, 1, none⟩ (.int .i64 (i : Int))).drew := ⟨_, rfl⟩
  have Hk1 : Hid (Kp [b] w w1) := Hid.mk (by rw [hw1]; exact ((Kp.refl _ _).setCell _ (.inl (by simp))).drew)
  have hr2 : Rdr w1 b s i := by rw [hw1]; exact Hr1.out
  have hcc := blk_cell hr2
  have hff := blk_frozen hr2
  have Hr2 := Hid.mk hr2
  rw [← hw1]
  clear hw1 Hr1 hr2
  go_quiet (fail)
  have hmm := @run_makeMap Tryz.prog
  go_wp2_with fail
  clear hmm
  obtain ⟨w2, hw2⟩ : ∃ w2, w2 = (w1.drewN nq).alloc (Obj.map #[] 0) := ⟨_, rfl⟩
  obtain ⟨g0, hg0⟩ : ∃ g0, g0 = w1.heap.size := ⟨_, rfl⟩
  rw [← hw2, ← hg0]
  have Hk2 : Hid (Kp [b] w w2) := Hid.mk (by rw [hw2]; exact (Hk1.out.drewN _).alloc _)
  have Hr3 : Hid (Rdr w2 b s i) := Hid.mk (by
    rw [hw2]
    refine Rdr.kept (Hr2.out : Rdr w1 b s i) (S := []) ?_ (by simp)
    exact ((Kp.refl _ _).drewN _).alloc _)
  have Hg : Hid (w2.heap[g0]? = some (.map #[] 0)) := Hid.mk (by rw [hw2, hg0]; exact heap_alloc_same _ _)
  have Hg2 : Hid (w.heap.size ≤ g0) := Hid.mk (by rw [hg0]; exact Hk1.out.size)
  clear hw2 hg0 hcc hff Hr2 Hk1
  go_loopg [] 1 (fun f wr => Kp [b] w wr ∧ ((f = 1 ∧ Rdr wr b s i ∧ wr.heap[g0]? = some (.map #[] 0)) ∨ (f = 0 ∧ Rdr wr b s m ∧ ∃ va, wr.heap[g0]? = some (.map #[ent k va 0] 1) ∧ Rep w.heap.size wr a va)))
  case atStart => exact ⟨Hk2.out, .inl ⟨rfl, Hr3.out, Hg.out⟩⟩
  case round =>
    obtain ⟨hkp, ⟨rfl, hr, hes⟩ | ⟨rfl, hr, va, hes, hrep⟩⟩ := hrel
    · have Hkp := Hid.mk hkp
      have Hr := Hid.mk hr
      have Hes := Hid.mk hes
      clear hkp hr hes Hg Hk2 Hr3
      have HM := Hid.mk HM0.out
      obtain ⟨p1, hp1⟩ : ∃ p1, p1 = i + 1 := ⟨_, rfl⟩
      have Hp1 := Hid.mk hp1
      clear hp1
      go_wp2_with fail
      refine (inside_true s i b 123 34 wr hs ⟨h2, h3⟩ (by have := HM.out.key.cons.1; exact this) Hr.out (by omega) (by omega) (by omega) (by omega)).mono ?_
      rintro e w3 ⟨rfl, hr3, hk3⟩
      rw [← Hp1.out] at hr3
      have hk3' := Hkp.out.trans hk3
      have hes3 := hk3.at Hes.out (fun e => by have := Hb.out; have := Hg2.out; simp at e; omega)
      have H3 := Hid.mk (And.intro hk3' (And.intro hes3 hk3))
      have hcc := blk_cell hr3
      have hff := blk_frozen hr3
      have Hr3 := Hid.mk hr3
      clear hr3 hk3 hk3' hes3
      go_wp2_with fail
      go_still_tail 10, (by kernel_rfl)
      still_call (still_ok (skip_nb s p1 _ (by rw [Hp1.out]; exact HM.out.nb1)))
      refine wpStill_nil ?_
      change wpList _ _ _ _ _ w3.drew
      go_wp2_with fail
      obtain ⟨w4, hw4⟩ : ∃ w4, w4 = (w3.setCell ⟨b, 1, none⟩ (.int .i64 (p1 : Int))).drew := ⟨_, rfl⟩
      have Hk4 : Hid (Kp [b] w3 w4) := Hid.mk (by rw [hw4]; exact ((Kp.refl _ _).setCell _ (.inl (by simp))).drew)
      have hr4 : Rdr w4 b s p1 := by rw [hw4]; exact Rdr.setAt (i := p1) Hr3.out _ rfl
      rw [← hw4]
      have Hr4 := Hid.mk hr4
      clear hw4 Hr3 hr4 hcc hff
      refine (text_any s k p1 b w4 hs H.out.1.1 (by rw [Hp1.out]; exact HM.out.key) Hr4.out).mono ?_
      rintro e w5 ⟨rfl, hr5, hk5⟩
      obtain ⟨p4, hp4⟩ : ∃ p4, p4 = p1 + 3 := ⟨_, rfl⟩
      rw [← hp4] at hr5
      have hp4' : p4 = i + 1 + 3 := by rw [hp4, Hp1.out]
      have Hp4 := Hid.mk hp4'
      clear hp4 hp4'
      have Hk5 := Hid.mk (Hk4.out.trans hk5)
      have hcc := blk_cell hr5
      have hff := blk_frozen hr5
      have Hr5 := Hid.mk hr5
      clear hk5 hr5 Hk4 Hr4
      go_wp2_with fail
      obtain ⟨p5, hp5⟩ : ∃ p5, p5 = p4 + 1 := ⟨_, rfl⟩
      have hp5w : IntKind.i64.wrap ((p4 : Int) + 1) = (p5 : Int) := by
        have := HM.out.h4
        obtain ⟨h4, _⟩ := this
        have := HM.out.e4
        have := Hp4.out
        rw [IntWalk.i64_in _ (by omega)]
        omega
      have Hp5 := Hid.mk hp5
      clear hp5
      have nb4 : NB s p4 := by rw [Hp4.out, ← HM.out.e4]; exact HM.out.nb4
      have Hnb4 := Hid.mk nb4
      clear nb4
      go_still_tail 11, (by kernel_rfl)
      still_call (still_ok (skip_nb s p4 _ Hnb4.out))
      repeat still_step
      refine wpStill_nil ?_
      change wpList _ _ _ _ _ w5.drew
      go_wp2_with fail
      obtain ⟨w6, hw6⟩ : ∃ w6, w6 = (w5.setCell ⟨b, 1, none⟩ (.int .i64 (p5 : Int))).drew := ⟨_, rfl⟩
      have Hk6 : Hid (Kp [b] w w6) := Hid.mk (by rw [hw6]; exact ((H3.out.1.trans Hk5.out).setCell _ (.inl (by simp))).drew)
      have Hk6r : Hid (Kp [b] wr w6) := Hid.mk (by rw [hw6]; exact ((H3.out.2.2.trans Hk5.out).setCell _ (.inl (by simp))).drew)
      have hr6 : Rdr w6 b s p5 := by rw [hw6]; exact Rdr.setAt (i := p4) Hr5.out _ rfl
      have Hes6 : Hid (w6.heap[g0]? = some (.map #[] 0)) := Hid.mk (by
        rw [hw6]
        have h1 := Hk5.out.at H3.out.2.1 (fun e => by have := Hb.out; have := Hg2.out; simp at e; omega)
        exact (heap_setCell_other (fun e => by have := Hb.out; have := Hg2.out; simp at e; omega) _).trans h1)
      rw [← hw6]
      have Hr6 := Hid.mk hr6
      clear hw6 Hr5 hr6 hcc hff Hk5 hp5w
      have hp5' : p5 = q5 := by
        have := HM.out.e5
        have := HM.out.e4
        have := Hp5.out
        have := Hp4.out
        omega
      have Hp5' := Hid.mk hp5'
      clear hp5'
      refine (ih s b p5 w6 hs H.out.1.2 (by rw [Hp5'.out]; exact HM.out.val) (by rw [Hp5'.out, ← HM.out.em]; exact Stop.of HM.out.hm (by simp)) Hr6.out).mono ?_
      rintro e w7 ⟨v, rfl, hrep, hr7, hk7⟩
      have Hes7 := Hid.mk (hk7.at Hes6.out (fun e => by have := Hb.out; have := Hg2.out; simp at e; omega))
      have Hk7 := Hid.mk hk7
      have Hr7 := Hid.mk hr7
      have Hrep := Hid.mk hrep
      clear hrep hr7 hk7
      obtain ⟨w8, hrun, hes8, hk8, hs8⟩ := mapPut_run v Hes7.out (show Instr.findNow .string (.string (txt [k])) (_ : Array MapEntry).toList 0 = some none from rfl)
      have H8 := Hid.mk (And.intro hes8 (And.intro hk8 hs8))
      clear hes8 hk8 hs8
      go_wp2_with fail
      go_roundg 0
      case measure => omega
      case rel =>
        have hk8 : Kp [b] w w8 := (Hk6.out.trans Hk7.out).trans' H8.out.2.1 (fun j hj hjl => by have := Hg2.out; simp at hj; omega)
        refine ⟨hk8, .inr ⟨rfl, ?_, v, H8.out.1, ?_⟩⟩
        · have h1 := H8.out.2.1.at Hr7.out (fun e => by have := Hb.out; have := Hg2.out; simp at e; omega)
          have h2 : p5 + (enc a).length = m := by rw [Hp5'.out]; exact HM.out.em.symm
          rw [← h2]
          exact h1
        · refine Rep.mono (B := w6.heap.size) Hk6.out.size (Rep.kept H8.out.2.1 (fun j hj => ?_) Hrep.out)
          have := lt_of_heap Hes6.out
          simp at hj
          omega
    · have Hkp := Hid.mk hkp
      have Hr := Hid.mk hr
      have Hes := Hid.mk (And.intro hes hrep)
      clear hkp hr hes hrep Hg Hk2 Hr3
      go_wp2_with fail
      refine (inside_end s m b 125 wr hs HM0.out.hm H.out.2.2.1.nb Hr.out (.inr rfl)).mono ?_
      rintro e w3 ⟨rfl, hr3, hk3⟩
      have H3 := Hid.mk (And.intro hr3 hk3)
      clear hr3 hk3
      go_wp2_with fail
      go_ret
      refine ⟨_, rfl, ⟨g0, va, rfl, Hg2.out, H3.out.2.at Hes.out.1 (fun e => by have := Hb.out; have := Hg2.out; simp at e; omega), ?_⟩, ?_, Hkp.out.trans H3.out.2⟩
      · exact Rep.kept H3.out.2 (fun j hj => by have := Hb.out; simp at hj; omega) Hes.out.2
      · rw [← H.out.2.2.2.2]
        exact H3.out.1
end Go.Proofs.YtpigmadopflfkaaGreatDoor
