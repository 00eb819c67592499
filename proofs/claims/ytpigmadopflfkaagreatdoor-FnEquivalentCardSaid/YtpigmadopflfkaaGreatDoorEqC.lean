/- deepEqual of two plain documents of one shape says whether they are the same. Condition: they are of one shape. -/
import Derived.Test.YtpigmadopflfkaaGreatDoorEqB
namespace Go.Proofs.YtpigmadopflfkaaGreatDoor
open Go.RowKit Go.BigFrame

def deq : J → J → Bool
  | .num x, .num y => feq (fb x) (fb y)
  | .arr l, .arr m => deqL l m
  | .obj1 _ a, .obj1 _ b => deq a b
  | .obj2 _ a _ b, .obj2 _ c _ d => deq a c && deq b d
  | _, _ => false
/-- Two documents of one shape. -/
def Sim : J → J → Prop
  | .num _, .num _ => True
  | .arr l, .arr m => l.length = m.length ∧ l.length < 1000000
  | .obj1 k a, .obj1 n b => k = n ∧ keyOk k ∧ Sim a b
  | .obj2 k a m b, .obj2 k' c m' d => k = k' ∧ m = m' ∧ keyOk k ∧ keyOk m ∧ k ≠ m ∧ Sim a c ∧ Sim b d
  | _, _ => False
def EqOk (f : Nat) (a b : J) : Prop := ∀ (w : World) (B B' : Nat) (v u : Value), Rep B w a v → Rep B' w b u → Calls Tryz.prog f #[v, u] w fun e w' => e = .returned (.bool (deq a b)) ∧ Kp [] w w'

set_option maxRecDepth 100000 in
set_option maxHeartbeats 1000000 in
theorem eq_of_eqv {a b : J} (h : EqOk 96 a b) : EqOk 65 a b := by
  intro w B B' v u hv hu
  have H := Hid.mk (h w B B' v u hv hu)
  obtain ⟨t, x, rfl⟩ := hv.iface
  clear h hv hu
  go_enter Tryz.func65, Tryz.ntmps65
  go_wp2_with fail
  refine H.out.mono ?_
  rintro e w' ⟨rfl, hk⟩
  have Hk := Hid.mk hk
  clear hk
  go_wp2_with fail
  go_ret
  exact ⟨rfl, Hk.out⟩

theorem len_map {w : World} {r T k e : Nat} {es : Array MapEntry} {clock : Nat} (hT : Tryz.prog.underlying T = some (.map k e)) (hb : w.heap[r]? = some (Obj.map es clock)) (n : Int) (hn : (es.size : Int) = n) :
    (Builtin.len_ #[T] 3 #[Value.map (some r)]).run Tryz.prog w = .ok (.int .i64 n) w := by
  simp [Builtin.len_, run_underlying hT, MapKept.run_getObj_map hb, goInt, Result.andThen, hn]
theorem txt_self (k : Nat) : (txt [k] == txt [k]) = true := (MapKept.bytes_beq _ _).2 rfl

set_option maxRecDepth 100000 in
set_option maxHeartbeats 1000000 in
theorem eqv_obj1 (k : Nat) (hk : keyOk k) (a b : J) (ih : EqOk 65 a b) : EqOk 96 (.obj1 k a) (.obj1 k b) := by
  intro w B B' v u hv hu
  have H := Hid.mk (tag_any hv)
  have H2 := Hid.mk (tag_any hu)
  obtain ⟨r, va, rfl, hB, hr, hva⟩ := hv
  obtain ⟨r2, vb, rfl, hB2, hr2, hvb⟩ := hu
  have Hv := Hid.mk (And.intro hr (And.intro hva (And.intro hr2 hvb)))
  have Hk := Hid.mk hk
  have y121 := ta_yes121
  clear hr hva hr2 hvb hk
  go_enter Tryz.func96, Tryz.ntmps96
  go_wp2_with fail
  refine (H.out _).mono ?_
  rintro e w' ⟨rfl, rfl⟩
  simp only [jtag]
  go_wp2_with fail
  refine (H2.out _).mono ?_
  rintro e w' ⟨rfl, rfl⟩
  simp only [jtag]
  have l1 := len_map Tryz.underlying121 Hv.out.1 1 rfl
  have l2 := len_map Tryz.underlying121 Hv.out.2.2.1 1 rfl
  have hrg := range_run Tryz.underlying121 Hv.out.1
  go_wp2_with fail
  clear l1 l2 hrg
  obtain ⟨w1, hw1⟩ : ∃ w1, w1 = w.alloc (.mapIter (some r) 1 #[] 1) := ⟨_, rfl⟩
  obtain ⟨it, hitd⟩ : ∃ it, it = w.heap.size := ⟨_, rfl⟩
  rw [← hw1, ← hitd]
  have hk1 : Kp [] w w1 := by rw [hw1]; exact (Kp.refl _ _).alloc _
  have hit1 : w1.heap[it]? = some (.mapIter (some r) 1 #[] 1) := by rw [hw1, hitd]; exact heap_alloc_same _ _
  have Hit := Hid.mk hitd
  clear hw1 hitd
  go_loopg [] 1 (fun f wr => Kp [] w wr ∧ ((f = 1 ∧ wr.heap[it]? = some (.mapIter (some r) 1 #[] 1)) ∨ (f = 0 ∧ wr.heap[it]? = some (.mapIter (some r) 1 #[0] 1) ∧ deq a b = true)))
  case atStart => exact ⟨hk1, .inl ⟨rfl, hit1⟩⟩
  case round =>
    clear hk1 hit1
    obtain ⟨hkp, ⟨rfl, hit⟩ | ⟨rfl, hit, hd⟩⟩ := hrel
    · obtain ⟨i, hi, w2, hnext, hit2, hk2⟩ := next_more (T := 0) hit (hkp.at Hv.out.1 (by simp)) rfl #[ent k va 0] (by simp) (by simp) (by simp) (by simp)
      obtain rfl : i = 0 := by simp at hi; omega
      have hk2' : Kp [] w w2 := hkp.trans' hk2 (fun j hj hjl => by have := Hit.out; simp at hj; omega)
      have hent := entry_run (b := 0) (e := ent k va 0) hit2 (hk2'.at Hv.out.1 (by simp)) (by simp)
      have hlk := lookup_run (T := 121) (k := txt [k]) (i := 0) (v := vb) true Tryz.underlying121 (hk2'.at Hv.out.2.2.1 (by simp)) (by simp [Instr.findNow, Instr.sameNow, txt_self])
      have H3 := Hid.mk (And.intro hit2 hk2')
      have Hkp := Hid.mk hkp
      clear hit2 hk2' hk2 hit hkp
      go_wp2_with fail
      have hS : ∀ j ∈ ([] : List Nat), j < B := by simp
      refine (ih w2 B B' va vb (Hv.out.2.1.kept H3.out.2 (by simp)) (Hv.out.2.2.2.kept H3.out.2 (by simp))).mono ?_
      rintro e w3 ⟨rfl, hk3⟩
      have Hk3 := Hid.mk hk3
      clear hk3 hS
      cases hq : deq a b
      · go_wp2_with fail
        go_ret
        exact ⟨by rw [deq, hq]; rfl, H3.out.2.trans Hk3.out⟩
      · go_wp2_with fail
        go_roundg 0
        case measure => omega
        case rel => exact ⟨H3.out.2.trans Hk3.out, .inr ⟨rfl, Hk3.out.at H3.out.1 (by simp), hq⟩⟩
    · have hnext := next_over (T := 0) hit (hkp.at Hv.out.1 (by simp)) (by simp) (by simp)
      have Hkp := Hid.mk hkp
      have Hd := Hid.mk hd
      clear hit hkp hd
      go_wp2_with fail
      go_ret
      exact ⟨by rw [deq, Hd.out]; rfl, Hkp.out⟩
set_option maxRecDepth 100000 in
set_option maxHeartbeats 4000000 in
theorem eqv_obj2 (k : Nat) (hk : keyOk k) (a : J) (m : Nat) (hm : keyOk m) (b c d : J) (hkm : k ≠ m) (iha : EqOk 65 a c) (ihb : EqOk 65 b d) : EqOk 96 (.obj2 k a m b) (.obj2 k c m d) := by
  intro w B B' v u hv hu
  have H := Hid.mk (tag_any hv)
  have H2 := Hid.mk (tag_any hu)
  obtain ⟨r, va, vb, rfl, hB, hr, hva, hvb⟩ := hv
  obtain ⟨r2, vc, vd, rfl, hB2, hr2, hvc, hvd⟩ := hu
  have Hv := Hid.mk (And.intro hr (And.intro hva (And.intro hvb (And.intro hr2 (And.intro hvc hvd)))))
  have Hne := Hid.mk (txt_beq hm hk (fun e => hkm e.symm))
  have y121 := ta_yes121
  clear hr hva hvb hr2 hvc hvd hk hm hkm
  go_enter Tryz.func96, Tryz.ntmps96
  go_wp2_with fail
  refine (H.out _).mono ?_
  rintro e w' ⟨rfl, rfl⟩
  simp only [jtag]
  go_wp2_with fail
  refine (H2.out _).mono ?_
  rintro e w' ⟨rfl, rfl⟩
  simp only [jtag]
  have l1 := len_map Tryz.underlying121 Hv.out.1 2 rfl
  have l2 := len_map Tryz.underlying121 Hv.out.2.2.2.1 2 rfl
  have hrg := range_run Tryz.underlying121 Hv.out.1
  go_wp2_with fail
  clear l1 l2 hrg
  obtain ⟨w1, hw1⟩ : ∃ w1, w1 = w.alloc (.mapIter (some r) 2 #[] 2) := ⟨_, rfl⟩
  obtain ⟨it, hitd⟩ : ∃ it, it = w.heap.size := ⟨_, rfl⟩
  rw [← hw1, ← hitd]
  have hk1 : Kp [] w w1 := by rw [hw1]; exact (Kp.refl _ _).alloc _
  have hit1 : w1.heap[it]? = some (.mapIter (some r) 2 #[] 2) := by rw [hw1, hitd]; exact heap_alloc_same _ _
  have Hit := Hid.mk hitd
  clear hw1 hitd
  go_loopg [] 2 (fun f wr => Kp [] w wr ∧ ((f = 2 ∧ wr.heap[it]? = some (.mapIter (some r) 2 #[] 2)) ∨ (f = 1 ∧ wr.heap[it]? = some (.mapIter (some r) 2 #[0] 2) ∧ deq a c = true) ∨ (f = 1 ∧ wr.heap[it]? = some (.mapIter (some r) 2 #[1] 2) ∧ deq b d = true) ∨
    (f = 0 ∧ (wr.heap[it]? = some (.mapIter (some r) 2 #[0, 1] 2) ∨ wr.heap[it]? = some (.mapIter (some r) 2 #[1, 0] 2)) ∧ deq a c = true ∧ deq b d = true)))
  case atStart => exact ⟨hk1, .inl ⟨rfl, hit1⟩⟩
  case round =>
    clear hk1 hit1
    obtain ⟨hkp, ⟨rfl, hit⟩ | ⟨rfl, hit, hd⟩ | ⟨rfl, hit, hd⟩ | ⟨rfl, hit, hd1, hd2⟩⟩ := hrel
    · obtain ⟨i, hi, w2, hnext, hit2, hk2⟩ := next_more (T := 0) hit (hkp.at Hv.out.1 (by simp)) (by simp) #[ent k va 0, ent m vb 1] (by simp) (by simp) (by simp) (by simp)
      obtain rfl | rfl : i = 0 ∨ i = 1 := by simp at hi; omega
      · have hk2' : Kp [] w w2 := hkp.trans' hk2 (fun j hj hjl => by have := Hit.out; simp at hj; omega)
        have hent := entry_run (b := 0) (e := ent k va 0) hit2 (hk2'.at Hv.out.1 (by simp)) (by simp)
        have hlk := lookup_run (T := 121) (k := txt [k]) (i := 0) (v := vc) true Tryz.underlying121 (hk2'.at Hv.out.2.2.2.1 (by simp)) (by simp [Instr.findNow, Instr.sameNow, txt_self, Hne.out])
        have H3 := Hid.mk (And.intro hit2 hk2')
        have Hkp := Hid.mk hkp
        clear hit2 hk2' hk2 hit hkp
        go_wp2_with fail
        refine (iha w2 B B' va vc (Hv.out.2.1.kept H3.out.2 (by simp)) (Hv.out.2.2.2.2.1.kept H3.out.2 (by simp))).mono ?_
        rintro e w3 ⟨rfl, hk3⟩
        have Hk3 := Hid.mk hk3
        clear hk3
        cases hq : deq a c
        · go_wp2_with fail
          go_ret
          exact ⟨by rw [deq, hq]; simp, H3.out.2.trans Hk3.out⟩
        · go_wp2_with fail
          go_roundg 1
          case measure => omega
          case rel => exact ⟨H3.out.2.trans Hk3.out, .inr (.inl ⟨rfl, Hk3.out.at H3.out.1 (by simp), hq⟩)⟩
      · have hk2' : Kp [] w w2 := hkp.trans' hk2 (fun j hj hjl => by have := Hit.out; simp at hj; omega)
        have hent := entry_run (b := 1) (e := ent m vb 1) hit2 (hk2'.at Hv.out.1 (by simp)) (by simp)
        have hlk := lookup_run (T := 121) (k := txt [m]) (i := 1) (v := vd) true Tryz.underlying121 (hk2'.at Hv.out.2.2.2.1 (by simp)) (by simp [Instr.findNow, Instr.sameNow, txt_self, Hne.out])
        have H3 := Hid.mk (And.intro hit2 hk2')
        have Hkp := Hid.mk hkp
        clear hit2 hk2' hk2 hit hkp
        go_wp2_with fail
        refine (ihb w2 B B' vb vd (Hv.out.2.2.1.kept H3.out.2 (by simp)) (Hv.out.2.2.2.2.2.kept H3.out.2 (by simp))).mono ?_
        rintro e w3 ⟨rfl, hk3⟩
        have Hk3 := Hid.mk hk3
        clear hk3
        cases hq : deq b d
        · go_wp2_with fail
          go_ret
          exact ⟨by rw [deq, hq]; simp, H3.out.2.trans Hk3.out⟩
        · go_wp2_with fail
          go_roundg 1
          case measure => omega
          case rel => exact ⟨H3.out.2.trans Hk3.out, .inr (.inr (.inl ⟨rfl, Hk3.out.at H3.out.1 (by simp), hq⟩))⟩
    · obtain ⟨i, hi, w2, hnext, hit2, hk2⟩ := next_more (T := 0) hit (hkp.at Hv.out.1 (by simp)) (by simp) #[ent m vb 1] (by simp) (by simp) (by simp) (by simp)
      obtain rfl : i = 0 := by simp at hi; omega
      have Hd := Hid.mk hd
      clear hd
      have hk2' : Kp [] w w2 := hkp.trans' hk2 (fun j hj hjl => by have := Hit.out; simp at hj; omega)
      have hent := entry_run (b := 1) (e := ent m vb 1) hit2 (hk2'.at Hv.out.1 (by simp)) (by simp)
      have hlk := lookup_run (T := 121) (k := txt [m]) (i := 1) (v := vd) true Tryz.underlying121 (hk2'.at Hv.out.2.2.2.1 (by simp)) (by simp [Instr.findNow, Instr.sameNow, txt_self, Hne.out])
      have H3 := Hid.mk (And.intro hit2 hk2')
      have Hkp := Hid.mk hkp
      clear hit2 hk2' hk2 hit hkp
      go_wp2_with fail
      refine (ihb w2 B B' vb vd (Hv.out.2.2.1.kept H3.out.2 (by simp)) (Hv.out.2.2.2.2.2.kept H3.out.2 (by simp))).mono ?_
      rintro e w3 ⟨rfl, hk3⟩
      have Hk3 := Hid.mk hk3
      clear hk3
      cases hq : deq b d
      · go_wp2_with fail
        go_ret
        exact ⟨by rw [deq, hq]; simp, H3.out.2.trans Hk3.out⟩
      · go_wp2_with fail
        go_roundg 0
        case measure => omega
        case rel => exact ⟨H3.out.2.trans Hk3.out, .inr (.inr (.inr ⟨rfl, .inl (Hk3.out.at H3.out.1 (by simp)), Hd.out, hq⟩))⟩
    · obtain ⟨i, hi, w2, hnext, hit2, hk2⟩ := next_more (T := 0) hit (hkp.at Hv.out.1 (by simp)) (by simp) #[ent k va 0] (by simp) (by simp) (by simp) (by simp)
      obtain rfl : i = 0 := by simp at hi; omega
      have Hd := Hid.mk hd
      clear hd
      have hk2' : Kp [] w w2 := hkp.trans' hk2 (fun j hj hjl => by have := Hit.out; simp at hj; omega)
      have hent := entry_run (b := 0) (e := ent k va 0) hit2 (hk2'.at Hv.out.1 (by simp)) (by simp)
      have hlk := lookup_run (T := 121) (k := txt [k]) (i := 0) (v := vc) true Tryz.underlying121 (hk2'.at Hv.out.2.2.2.1 (by simp)) (by simp [Instr.findNow, Instr.sameNow, txt_self, Hne.out])
      have H3 := Hid.mk (And.intro hit2 hk2')
      have Hkp := Hid.mk hkp
      clear hit2 hk2' hk2 hit hkp
      go_wp2_with fail
      refine (iha w2 B B' va vc (Hv.out.2.1.kept H3.out.2 (by simp)) (Hv.out.2.2.2.2.1.kept H3.out.2 (by simp))).mono ?_
      rintro e w3 ⟨rfl, hk3⟩
      have Hk3 := Hid.mk hk3
      clear hk3
      cases hq : deq a c
      · go_wp2_with fail
        go_ret
        exact ⟨by rw [deq, hq]; simp, H3.out.2.trans Hk3.out⟩
      · go_wp2_with fail
        go_roundg 0
        case measure => omega
        case rel => exact ⟨H3.out.2.trans Hk3.out, .inr (.inr (.inr ⟨rfl, .inr (Hk3.out.at H3.out.1 (by simp)), hq, Hd.out⟩))⟩
    · have hnext : (Instr.next (.pointer (some ⟨it, 0, none⟩)) false 0).run Tryz.prog wr = .ok (.tuple #[.bool false]) wr := by
        rcases hit with hit | hit
        · exact next_over (T := 0) hit (hkp.at Hv.out.1 (by simp)) (by simp) (by simp)
        · exact next_over (T := 0) hit (hkp.at Hv.out.1 (by simp)) (by simp) (by simp)
      have Hkp := Hid.mk hkp
      have Hd := Hid.mk (And.intro hd1 hd2)
      clear hit hkp hd1 hd2
      go_wp2_with fail
      go_ret
      exact ⟨by rw [deq, Hd.out.1, Hd.out.2]; rfl, Hkp.out⟩

theorem eq_any : ∀ (a b : J), Sim a b → EqOk 65 a b
  | .num x, .num y, _ => eq_of_eqv (fun w B B' v u hv hu => by
      cases hv
      cases hu
      refine (eqv_num x y _ _ rfl rfl w).mono ?_
      rintro e w' ⟨rfl, k, rfl⟩
      exact ⟨rfl, (Kp.refl _ _).drewN _⟩)
  | .arr l, .arr m, h => eq_of_eqv (fun w B B' v u hv hu => by
      refine (eqv_arr l m h.1 h.2 w hv hu).mono ?_
      rintro e w' ⟨rfl, k, rfl⟩
      exact ⟨rfl, (Kp.refl _ _).drewN _⟩)
  | .obj1 k a, .obj1 n b, ⟨h1, h2, h3⟩ => by
      subst h1
      exact eq_of_eqv (eqv_obj1 k h2 a b (eq_any a b h3))
  | .obj2 k a m b, .obj2 k' c m' d, ⟨h1, h2, h3, h4, h5, h6, h7⟩ => by
      subst h1
      subst h2
      exact eq_of_eqv (eqv_obj2 k h3 a m h4 b c d h5 (eq_any a c h6) (eq_any b d h7))
end Go.Proofs.YtpigmadopflfkaaGreatDoor
