/- compareObjects of two objects of two names leaves no operation where the option Equivalent is on. Condition: nor does diff of their members. -/
import Derived.Test.YtpigmadopflfkaaGreatDoorObZ
namespace Go.Proofs.YtpigmadopflfkaaGreatDoor
open Go.RowKit Go.BigFrame

abbrev en8 (k : Nat) (v : Int) (n : Nat) : MapEntry := ⟨.string (txt [k]), .int .u8 v, n⟩
/-- A new entry. -/
theorem mput_run {T e : Nat} (hT : Tryz.prog.underlying T = some (.map 9 e)) {w : World} {r : Nat} {es : Array MapEntry} {clock : Nat} {k : ByteArray} (val : Value) (hb : w.heap[r]? = some (.map es clock)) (hnew : Instr.findNow .string (.string k) es.toList 0 = some none) :
    ∃ w', (Instr.mapUpdate T (.map (some r)) (.string k) val).run Tryz.prog w = .ok () w' ∧ w'.heap[r]? = some (.map (es.push ⟨.string k, val, clock⟩) (clock + 1)) ∧ Kp [r] w w' := by
  refine ⟨{ w with heap := w.heap.setIfInBounds r (.map (es.push ⟨.string k, val, clock⟩) (clock + 1)) }, ?_, (MapKept.heap_set hb).1, ⟨rfl, rfl, rfl, by simp, fun i _ hn => (MapKept.heap_set hb).2 i (by simpa using hn)⟩⟩
  simp [Instr.mapUpdate, run_underlying hT, MapKept.run_getObj_map hb, MapKept.run_checkKey Tryz.underlying9 (show MapKept.IsKey .string (.string k) by simp [MapKept.IsKey]), MapKept.run_findKey Tryz.underlying9 hnew, MapKept.run_setObj_map _ hb, Result.andThen]
/-- An entry anew. -/
theorem mset_run {T e : Nat} (hT : Tryz.prog.underlying T = some (.map 9 e)) {w : World} {r : Nat} {es : Array MapEntry} {clock i : Nat} {k : ByteArray} {v0 : Value} {b : Nat} (val : Value) (hb : w.heap[r]? = some (.map es clock)) (hold : Instr.findNow .string (.string k) es.toList 0 = some (some (i, v0)))
    (hi : es[i]? = some ⟨.string k, v0, b⟩) :
    ∃ w', (Instr.mapUpdate T (.map (some r)) (.string k) val).run Tryz.prog w = .ok () w' ∧ w'.heap[r]? = some (.map (es.modify i fun e => { e with key := .string k, val := val }) clock) ∧ Kp [r] w w' := by
  refine ⟨{ w with heap := w.heap.setIfInBounds r (.map (es.modify i fun e => { e with key := .string k, val := val }) clock) }, ?_, (MapKept.heap_set hb).1, ⟨rfl, rfl, rfl, by simp, fun i _ hn => (MapKept.heap_set hb).2 i (by simpa using hn)⟩⟩
  have hkk : (k == k) = true := (MapKept.bytes_beq _ _).2 rfl
  simp [Instr.mapUpdate, run_underlying hT, MapKept.run_getObj_map hb, MapKept.run_checkKey Tryz.underlying9 (show MapKept.IsKey .string (.string k) by simp [MapKept.IsKey]), MapKept.run_findKey Tryz.underlying9 hold, MapKept.run_setObj_map _ hb, Result.andThen, hi, Instr.keyThatStays, Instr.sameBits, hkk]
theorem info5z : (Tryz.prog.info? 5).map (fun i => i.zero) = some (some (.int .u8 0)) := by kernel_rfl

theorem Elder.cut {B : Nat} {w : World} {a : Option Addr} {n cap : Nat} {cs : List Nat} {a' : Option Addr} {n' cap' : Nat} {cs' : List Nat} (h : Elder B w a n cap cs a' n' cap' cs') {m : Nat} (hm : n ≤ m) : Elder B w a n cap cs a' m cap' (cs'.take m) := by
  rcases h with ⟨h1, h2, h3, h4⟩ | h
  · refine .inl ⟨h1, h2, hm, ?_⟩
    rw [List.take_take, Nat.min_eq_left hm]
    exact h4
  · exact .inr h
/-- What diff gives where the two documents are to be one for 'Equivalent'. -/
def DiffOk (a b : J) : Prop := ∀ (d B B' : Nat) (C : Array Value) (w0 w : World) (v u : Value) (a0 : Option Addr) (n0 cap0 : Nat) (cs0 : List Nat) (key : ByteArray) (idx : Int) (pk : ByteArray) (pi sep : Int) (t : ByteArray),
  Rep B w0 a v → Rep B' w0 b u → Kp [d] w0 w → d < w0.heap.size → d < B → d < B' → Dif w d C → Opt C true → Buf w0.heap.size w a0 n0 cap0 cs0 → n0 + 2 * hgt a < 1000 →
  Calls Tryz.prog 52 #[.pointer (some ⟨d, 0, none⟩), .agg #[.slice a0 n0 cap0, .string key, .int .i64 idx, .string pk, .int .i64 pi, .int .i64 sep], v, u, .string t] w fun e w' => e = .returned (.tuple #[]) ∧
    Dif w' d C ∧ Kp (d :: rowOf a0) w w' ∧ Buf w0.heap.size w' a0 n0 cap0 cs0

set_option maxRecDepth 100000 in
set_option maxHeartbeats 8000000 in
theorem objects_eqv (k m : Nat) (hk : keyOk k) (hm : keyOk m) (hkm : k < m) (A1 B1 A2 B2 : J) (ihA : DiffOk A1 A2) (ihB : DiffOk B1 B2) (d B B' r1 r2 : Nat) (C : Array Value) (va vb vc vd : Value) (n0 cap0 : Nat) (a0 : Option Addr) (cs0 : List Nat) (key : ByteArray) (idx : Int) (pk : ByteArray) (pi sep : Int) (t : ByteArray) (w0 w : World)
    (hr1 : w0.heap[r1]? = some (.map #[ent k va 0, ent m vb 1] 2)) (hr2 : w0.heap[r2]? = some (.map #[ent k vc 0, ent m vd 1] 2)) (hB1 : B ≤ r1) (hB2 : B' ≤ r2) (ha1 : Rep B w0 A1 va) (hb1 : Rep B w0 B1 vb) (ha2 : Rep B' w0 A2 vc) (hb2 : Rep B' w0 B2 vd)
    (hk0 : Kp [d] w0 w) (hdB : d < B) (hdB' : d < B') (hd : Dif w d C) (hC : Opt C true) (hbuf : Buf w0.heap.size w a0 n0 cap0 cs0) (hnA : n0 + 2 * hgt A1 + 2 < 1000) (hnB : n0 + 2 * hgt B1 + 2 < 1000) :
    Calls Tryz.prog 79 #[.pointer (some ⟨d, 0, none⟩), .agg #[.slice a0 n0 cap0, .string key, .int .i64 idx, .string pk, .int .i64 pi, .int .i64 sep], .map (some r1), .map (some r2), .string t] w fun e w' => e = .returned (.tuple #[]) ∧
      Dif w' d C ∧ Kp (d :: rowOf a0) w w' ∧ Buf w0.heap.size w' a0 n0 cap0 cs0 := by
  have h1 := hk0.at hr1 (by simp; omega)
  have h2 := hk0.at hr2 (by simp; omega)
  have HX := Hid.mk (And.intro hk0 (And.intro hd (And.intro hC (And.intro hbuf (And.intro ha1 (And.intro hb1 (And.intro ha2 hb2)))))))
  have HB := Hid.mk (And.intro hdB (And.intro hdB' (And.intro hnA (And.intro hnB (And.intro hB1 hB2)))))
  have HR := Hid.mk (And.intro hr1 hr2)
  clear hr1 hr2 hB1 hB2 ha1 hb1 ha2 hb2 hk0 hdB hdB' hd hC hbuf hnA hnB
  have H := Hid.mk (And.intro h1 h2)
  have HK := Hid.mk (And.intro hk (And.intro hm hkm))
  have Hne := Hid.mk (And.intro (txt_beq hk hm (by omega)) (txt_beq hm hk (by omega)))
  have l1 : ∀ o, (Builtin.len_ #[121] 3 #[Value.map (some r1)]).run Tryz.prog (w.alloc o) = .ok (.int .i64 2) (w.alloc o) := fun o => len_map Tryz.underlying121 (((Kp.refl [] w).alloc o).at h1 (by simp)) 2 rfl
  have l2 : ∀ o, (Builtin.len_ #[121] 3 #[Value.map (some r2)]).run Tryz.prog (w.alloc o) = .ok (.int .i64 2) (w.alloc o) := fun o => len_map Tryz.underlying121 (((Kp.refl [] w).alloc o).at h2 (by simp)) 2 rfl
  have hmk := make_run Tryz.underlying179
  clear hk hm hkm h1 h2
  go_enter Tryz.func79, Tryz.ntmps79
  go_upto_region 2 with (fail)
  clear l1 l2 hmk
  obtain ⟨c, hc⟩ : ∃ c, c = w.heap.size + 1 := ⟨_, rfl⟩
  obtain ⟨p, hp⟩ : ∃ p, p = w.heap.size := ⟨_, rfl⟩
  obtain ⟨w1, hw1⟩ : ∃ w1, w1 = (w.alloc (.cells #[.slice a0 n0 cap0, .string key, .int .i64 idx, .string pk, .int .i64 pi, .int .i64 sep] 64)).alloc (.map #[] 0) := ⟨_, rfl⟩
  rw [← hw1, ← hc, ← hp]
  have hk1 : Kp [] w w1 := by rw [hw1]; exact ((Kp.refl _ _).alloc _).alloc _
  have hs1 : w1.heap.size = w.heap.size + 2 := by rw [hw1]; simp
  have hp1 : Ptr w1 p a0 n0 cap0 key idx pk pi sep := by
    rw [hw1, hp]
    exact (heap_alloc_lt (by simp) _).trans (heap_alloc_same _ _)
  have hcm1 : w1.heap[c]? = some (.map #[] 0) := by
    rw [hw1, hc]
    have := heap_alloc_same (w.alloc (.cells #[.slice a0 n0 cap0, .string key, .int .i64 idx, .string pk, .int .i64 pi, .int .i64 sep] 64)) (.map #[] 0)
    simpa using this
  have hrg := range_run Tryz.underlying121 (hk1.at H.out.1 (by simp))
  have H1 := Hid.mk (And.intro hk1 (And.intro hp1 hcm1))
  have Hc := Hid.mk (And.intro hc (And.intro hp hs1))
  clear hw1 hk1 hp1 hcm1 hc hp hs1
  go_wp2_with fail
  clear hrg
  obtain ⟨it, hitd⟩ : ∃ it, it = w1.heap.size := ⟨_, rfl⟩
  obtain ⟨w2, hw2⟩ : ∃ w2, w2 = w1.alloc (.mapIter (some r1) 2 #[] 2) := ⟨_, rfl⟩
  rw [← hw2, ← hitd]
  have hk1 : Kp [] w w2 := by rw [hw2]; exact H1.out.1.alloc _
  have hit1 : w2.heap[it]? = some (.mapIter (some r1) 2 #[] 2) := by rw [hw2, hitd]; exact heap_alloc_same _ _
  have hcm1 : w2.heap[c]? = some (.map #[] 0) := by rw [hw2]; exact ((Kp.refl [] _).alloc _).at H1.out.2.2 (by simp)
  have hp1 : Ptr w2 p a0 n0 cap0 key idx pk pi sep := by rw [hw2]; exact ((Kp.refl [] _).alloc _).at H1.out.2.1 (by simp)
  have Hit := Hid.mk (show it = w.heap.size + 2 by rw [hitd]; exact Hc.out.2.2)
  clear hw2 hitd H1
  have hb01 : bits BinOp.or IntKind.u8 0 1 = 1 := by kernel_rfl
  go_loopg [] 2 (fun f wr => Kp [] w wr ∧ Ptr wr p a0 n0 cap0 key idx pk pi sep ∧ ((f = 2 ∧ wr.heap[it]? = some (.mapIter (some r1) 2 #[] 2) ∧ wr.heap[c]? = some (.map #[] 0)) ∨
    (f = 1 ∧ wr.heap[it]? = some (.mapIter (some r1) 2 #[0] 2) ∧ wr.heap[c]? = some (.map #[en8 k 1 0] 1)) ∨ (f = 1 ∧ wr.heap[it]? = some (.mapIter (some r1) 2 #[1] 2) ∧ wr.heap[c]? = some (.map #[en8 m 1 0] 1)) ∨
    (f = 0 ∧ (wr.heap[it]? = some (.mapIter (some r1) 2 #[0, 1] 2) ∨ wr.heap[it]? = some (.mapIter (some r1) 2 #[1, 0] 2)) ∧ ∃ x y, (x = k ∧ y = m ∨ x = m ∧ y = k) ∧ wr.heap[c]? = some (.map #[en8 x 1 0, en8 y 1 1] 2))))
  case atStart => exact ⟨hk1, hp1, .inl ⟨rfl, hit1, hcm1⟩⟩
  case round =>
    clear hk1 hp1 hit1 hcm1
    obtain ⟨hkp, hpr, ⟨rfl, hit, hcm⟩ | ⟨rfl, hit, hcm⟩ | ⟨rfl, hit, hcm⟩ | ⟨rfl, hit, x, y, hxy, hcm⟩⟩ := hrel
    · obtain ⟨i, hi, w2, hnext, hit2, hk2⟩ := next_more (T := 0) hit (hkp.at H.out.1 (by simp)) (by simp) #[ent k va 0, ent m vb 1] (by simp) (by simp) (by simp) (by simp)
      obtain rfl | rfl : i = 0 ∨ i = 1 := by simp at hi; omega
      · have hk2' : Kp [] w w2 := hkp.trans' hk2 (fun j hj hjl => by have := Hit.out; simp at hj; omega)
        have hcm2 := hk2.at hcm (by have := Hit.out; have := Hc.out; simp; omega)
        have hent := entry_run (b := 0) (e := ent k va 0) hit2 (hk2'.at H.out.1 (by simp)) (by simp)
        have hlk := lookup_none (T := 179) (k := txt [k]) (z := .int .u8 0) false Tryz.underlying179 (zero_run w2 5 _ info5z) hcm2 (by simp [Instr.findNow, Instr.sameNow, txt_self, Hne.out.1, Hne.out.2])
        obtain ⟨w3, hput, hcm3, hk3⟩ := mput_run Tryz.underlying179 (k := txt [k]) (.int .u8 1) hcm2 (by simp [Instr.findNow, Instr.sameNow, txt_self, Hne.out.1, Hne.out.2])
        have hk3' : Kp [] w w3 := hk2'.trans' hk3 (fun j hj hjl => by have := Hc.out; simp at hj; omega)
        have hit3 := hk3.at hit2 (by have := Hit.out; have := Hc.out; simp; omega)
        have hpr3 : Ptr w3 p a0 n0 cap0 key idx pk pi sep := hk3.at (hk2.at hpr (by have := Hit.out; have := Hc.out; simp; omega)) (by have := Hc.out; simp; omega)
        have H3 := Hid.mk (And.intro hk3' (And.intro hit3 (And.intro hcm3 hpr3)))
        clear hk2' hk2 hit2 hcm2 hk3' hit3 hcm3 hk3 hkp hit hcm hpr hpr3
        go_wp2_with fail
        go_roundg 1
        case measure => omega
        case rel => exact ⟨H3.out.1, H3.out.2.2.2, .inr (.inl ⟨rfl, H3.out.2.1, H3.out.2.2.1⟩)⟩
      · have hk2' : Kp [] w w2 := hkp.trans' hk2 (fun j hj hjl => by have := Hit.out; simp at hj; omega)
        have hcm2 := hk2.at hcm (by have := Hit.out; have := Hc.out; simp; omega)
        have hent := entry_run (b := 1) (e := ent m vb 1) hit2 (hk2'.at H.out.1 (by simp)) (by simp)
        have hlk := lookup_none (T := 179) (k := txt [m]) (z := .int .u8 0) false Tryz.underlying179 (zero_run w2 5 _ info5z) hcm2 (by simp [Instr.findNow, Instr.sameNow, txt_self, Hne.out.1, Hne.out.2])
        obtain ⟨w3, hput, hcm3, hk3⟩ := mput_run Tryz.underlying179 (k := txt [m]) (.int .u8 1) hcm2 (by simp [Instr.findNow, Instr.sameNow, txt_self, Hne.out.1, Hne.out.2])
        have hk3' : Kp [] w w3 := hk2'.trans' hk3 (fun j hj hjl => by have := Hc.out; simp at hj; omega)
        have hit3 := hk3.at hit2 (by have := Hit.out; have := Hc.out; simp; omega)
        have hpr3 : Ptr w3 p a0 n0 cap0 key idx pk pi sep := hk3.at (hk2.at hpr (by have := Hit.out; have := Hc.out; simp; omega)) (by have := Hc.out; simp; omega)
        have H3 := Hid.mk (And.intro hk3' (And.intro hit3 (And.intro hcm3 hpr3)))
        clear hk2' hk2 hit2 hcm2 hk3' hit3 hcm3 hk3 hkp hit hcm hpr hpr3
        go_wp2_with fail
        go_roundg 1
        case measure => omega
        case rel => exact ⟨H3.out.1, H3.out.2.2.2, .inr (.inr (.inl ⟨rfl, H3.out.2.1, H3.out.2.2.1⟩))⟩
    · obtain ⟨i, hi, w2, hnext, hit2, hk2⟩ := next_more (T := 0) hit (hkp.at H.out.1 (by simp)) (by simp) #[ent m vb 1] (by simp) (by simp) (by simp) (by simp)
      obtain rfl : i = 0 := by simp at hi; omega
      have hk2' : Kp [] w w2 := hkp.trans' hk2 (fun j hj hjl => by have := Hit.out; simp at hj; omega)
      have hcm2 := hk2.at hcm (by have := Hit.out; have := Hc.out; simp; omega)
      have hent := entry_run (b := 1) (e := ent m vb 1) hit2 (hk2'.at H.out.1 (by simp)) (by simp)
      have hlk := lookup_none (T := 179) (k := txt [m]) (z := .int .u8 0) false Tryz.underlying179 (zero_run w2 5 _ info5z) hcm2 (by simp [Instr.findNow, Instr.sameNow, txt_self, Hne.out.1, Hne.out.2])
      obtain ⟨w3, hput, hcm3, hk3⟩ := mput_run Tryz.underlying179 (k := txt [m]) (.int .u8 1) hcm2 (by simp [Instr.findNow, Instr.sameNow, txt_self, Hne.out.1, Hne.out.2])
      have hk3' : Kp [] w w3 := hk2'.trans' hk3 (fun j hj hjl => by have := Hc.out; simp at hj; omega)
      have hit3 := hk3.at hit2 (by have := Hit.out; have := Hc.out; simp; omega)
      have hpr3 : Ptr w3 p a0 n0 cap0 key idx pk pi sep := hk3.at (hk2.at hpr (by have := Hit.out; have := Hc.out; simp; omega)) (by have := Hc.out; simp; omega)
      have H3 := Hid.mk (And.intro hk3' (And.intro hit3 (And.intro hcm3 hpr3)))
      clear hk2' hk2 hit2 hcm2 hk3' hit3 hcm3 hk3 hkp hit hcm hpr hpr3
      go_wp2_with fail
      go_roundg 0
      case measure => omega
      case rel => exact ⟨H3.out.1, H3.out.2.2.2, .inr (.inr (.inr ⟨rfl, .inl H3.out.2.1, k, m, .inl ⟨rfl, rfl⟩, H3.out.2.2.1⟩))⟩
    · obtain ⟨i, hi, w2, hnext, hit2, hk2⟩ := next_more (T := 0) hit (hkp.at H.out.1 (by simp)) (by simp) #[ent k va 0] (by simp) (by simp) (by simp) (by simp)
      obtain rfl : i = 0 := by simp at hi; omega
      have hk2' : Kp [] w w2 := hkp.trans' hk2 (fun j hj hjl => by have := Hit.out; simp at hj; omega)
      have hcm2 := hk2.at hcm (by have := Hit.out; have := Hc.out; simp; omega)
      have hent := entry_run (b := 0) (e := ent k va 0) hit2 (hk2'.at H.out.1 (by simp)) (by simp)
      have hlk := lookup_none (T := 179) (k := txt [k]) (z := .int .u8 0) false Tryz.underlying179 (zero_run w2 5 _ info5z) hcm2 (by simp [Instr.findNow, Instr.sameNow, txt_self, Hne.out.1, Hne.out.2])
      obtain ⟨w3, hput, hcm3, hk3⟩ := mput_run Tryz.underlying179 (k := txt [k]) (.int .u8 1) hcm2 (by simp [Instr.findNow, Instr.sameNow, txt_self, Hne.out.1, Hne.out.2])
      have hk3' : Kp [] w w3 := hk2'.trans' hk3 (fun j hj hjl => by have := Hc.out; simp at hj; omega)
      have hit3 := hk3.at hit2 (by have := Hit.out; have := Hc.out; simp; omega)
      have hpr3 : Ptr w3 p a0 n0 cap0 key idx pk pi sep := hk3.at (hk2.at hpr (by have := Hit.out; have := Hc.out; simp; omega)) (by have := Hc.out; simp; omega)
      have H3 := Hid.mk (And.intro hk3' (And.intro hit3 (And.intro hcm3 hpr3)))
      clear hk2' hk2 hit2 hcm2 hk3' hit3 hcm3 hk3 hkp hit hcm hpr hpr3
      go_wp2_with fail
      go_roundg 0
      case measure => omega
      case rel => exact ⟨H3.out.1, H3.out.2.2.2, .inr (.inr (.inr ⟨rfl, .inr H3.out.2.1, m, k, .inr ⟨rfl, rfl⟩, H3.out.2.2.1⟩))⟩
    · have hnext : (Instr.next (.pointer (some ⟨it, 0, none⟩)) false 0).run Tryz.prog wr = .ok (.tuple #[.bool false]) wr := by
        rcases hit with hit | hit
        · exact next_over (T := 0) hit (hkp.at H.out.1 (by simp)) (by simp) (by simp)
        · exact next_over (T := 0) hit (hkp.at H.out.1 (by simp)) (by simp) (by simp)
      have H5 := Hid.mk (And.intro hkp (And.intro hpr (And.intro hxy hcm)))
      clear hit hkp hpr hxy hcm
      go_upto_region 6 with (fail)
      have hrg := range_run Tryz.underlying121 (H5.out.1.at H.out.2 (by simp))
      go_wp2_with fail
      clear hrg hnext
      obtain ⟨it2, hitd⟩ : ∃ it2, it2 = wr.heap.size := ⟨_, rfl⟩
      obtain ⟨w5, hw5⟩ : ∃ w5, w5 = wr.alloc (.mapIter (some r2) 2 #[] 2) := ⟨_, rfl⟩
      rw [← hw5, ← hitd]
      have hk5 : Kp [] w w5 := by rw [hw5]; exact H5.out.1.alloc _
      have hit5 : w5.heap[it2]? = some (.mapIter (some r2) 2 #[] 2) := by rw [hw5, hitd]; exact heap_alloc_same _ _
      have hcm5 : w5.heap[c]? = some (.map #[en8 x 1 0, en8 y 1 1] 2) := by rw [hw5]; exact ((Kp.refl [] _).alloc _).at H5.out.2.2.2 (by simp)
      have hp5 : Ptr w5 p a0 n0 cap0 key idx pk pi sep := by rw [hw5]; exact ((Kp.refl [] _).alloc _).at H5.out.2.1 (by simp)
      have Hit2 := Hid.mk (show w.heap.size ≤ it2 ∧ c < it2 ∧ p < it2 by
        have h1 := lt_of_heap H5.out.2.2.2
        have h2 := lt_of_heap H5.out.2.1
        have h3 := H5.out.1.size
        omega)
      have HXY := Hid.mk H5.out.2.2.1
      have hb12 : bits BinOp.or IntKind.u8 1 2 = 3 := by kernel_rfl
      clear hw5 hitd H5 hb01
      go_loopg [] 2 (fun f wr => Kp [] w wr ∧ Ptr wr p a0 n0 cap0 key idx pk pi sep ∧ ((f = 2 ∧ wr.heap[it2]? = some (.mapIter (some r2) 2 #[] 2) ∧ wr.heap[c]? = some (.map #[en8 x 1 0, en8 y 1 1] 2)) ∨
        (f = 1 ∧ wr.heap[it2]? = some (.mapIter (some r2) 2 #[0] 2) ∧ (x = k ∧ wr.heap[c]? = some (.map #[en8 x 3 0, en8 y 1 1] 2) ∨ x = m ∧ wr.heap[c]? = some (.map #[en8 x 1 0, en8 y 3 1] 2))) ∨
        (f = 1 ∧ wr.heap[it2]? = some (.mapIter (some r2) 2 #[1] 2) ∧ (x = m ∧ wr.heap[c]? = some (.map #[en8 x 3 0, en8 y 1 1] 2) ∨ x = k ∧ wr.heap[c]? = some (.map #[en8 x 1 0, en8 y 3 1] 2))) ∨
        (f = 0 ∧ (wr.heap[it2]? = some (.mapIter (some r2) 2 #[0, 1] 2) ∨ wr.heap[it2]? = some (.mapIter (some r2) 2 #[1, 0] 2)) ∧ wr.heap[c]? = some (.map #[en8 x 3 0, en8 y 3 1] 2))))
      case atStart => exact ⟨hk5, hp5, .inl ⟨rfl, hit5, hcm5⟩⟩
      case round =>
        clear hk5 hp5 hit5 hcm5
        obtain ⟨hkp, hpr, ⟨rfl, hit, hcm⟩ | ⟨rfl, hit, hcm⟩ | ⟨rfl, hit, hcm⟩ | ⟨rfl, hit, hcm⟩⟩ := hrel
        · obtain ⟨i, hi, w2, hnext, hit2, hk2⟩ := next_more (T := 0) hit (hkp.at H.out.2 (by simp)) (by simp) #[ent k vc 0, ent m vd 1] (by simp) (by simp) (by simp) (by simp)
          obtain rfl | rfl : i = 0 ∨ i = 1 := by simp at hi; omega
          · rcases HXY.out with ⟨hx, hy⟩ | ⟨hx, hy⟩
            · have Hx := Hid.mk (And.intro hx hy)
              rw [hx, hy] at hcm
              clear hx hy
              have hk2' : Kp [] w w2 := hkp.trans' hk2 (fun j hj hjl => by have := Hit2.out; simp at hj; omega)
              have hcm2 := hk2.at hcm (by have := Hit2.out; have := Hc.out; simp; omega)
              have hent := entry_run (b := 0) (e := ent k vc 0) hit2 (hk2'.at H.out.2 (by simp)) (by simp)
              have hlk := lookup_run (T := 179) (k := txt [k]) (i := 0) (v := .int .u8 1) false Tryz.underlying179 hcm2 (by simp [Instr.findNow, Instr.sameNow, txt_self, Hne.out.1, Hne.out.2])
              obtain ⟨w3, hput, hcm3, hk3⟩ := mset_run Tryz.underlying179 (k := txt [k]) (i := 0) (v0 := .int .u8 1) (b := 0) (.int .u8 3) hcm2 (by simp [Instr.findNow, Instr.sameNow, txt_self, Hne.out.1, Hne.out.2]) rfl
              replace hcm3 : w3.heap[c]? = some (.map #[en8 k 3 0, en8 m 1 1] 2) := by simpa using hcm3
              have hk3' : Kp [] w w3 := hk2'.trans' hk3 (fun j hj hjl => by have := Hc.out; simp at hj; omega)
              have hit3 := hk3.at hit2 (by have := Hit2.out; have := Hc.out; simp; omega)
              have hpr3 : Ptr w3 p a0 n0 cap0 key idx pk pi sep := hk3.at (hk2.at hpr (by have := Hit2.out; have := Hc.out; simp; omega)) (by have := Hc.out; simp; omega)
              have H3 := Hid.mk (And.intro hk3' (And.intro hit3 (And.intro hcm3 hpr3)))
              clear hk2' hk2 hit2 hcm2 hk3' hit3 hcm3 hk3 hkp hit hcm hpr hpr3
              go_wp2_with fail
              go_roundg 1
              case measure => omega
              case rel => exact ⟨H3.out.1, H3.out.2.2.2, .inr (.inl ⟨rfl, H3.out.2.1, .inl ⟨Hx.out.1, (by have h := H3.out.2.2.1; rw [Hx.out.1, Hx.out.2]; exact h)⟩⟩)⟩
            · have Hx := Hid.mk (And.intro hx hy)
              rw [hx, hy] at hcm
              clear hx hy
              have hk2' : Kp [] w w2 := hkp.trans' hk2 (fun j hj hjl => by have := Hit2.out; simp at hj; omega)
              have hcm2 := hk2.at hcm (by have := Hit2.out; have := Hc.out; simp; omega)
              have hent := entry_run (b := 0) (e := ent k vc 0) hit2 (hk2'.at H.out.2 (by simp)) (by simp)
              have hlk := lookup_run (T := 179) (k := txt [k]) (i := 1) (v := .int .u8 1) false Tryz.underlying179 hcm2 (by simp [Instr.findNow, Instr.sameNow, txt_self, Hne.out.1, Hne.out.2])
              obtain ⟨w3, hput, hcm3, hk3⟩ := mset_run Tryz.underlying179 (k := txt [k]) (i := 1) (v0 := .int .u8 1) (b := 1) (.int .u8 3) hcm2 (by simp [Instr.findNow, Instr.sameNow, txt_self, Hne.out.1, Hne.out.2]) rfl
              replace hcm3 : w3.heap[c]? = some (.map #[en8 m 1 0, en8 k 3 1] 2) := by simpa using hcm3
              have hk3' : Kp [] w w3 := hk2'.trans' hk3 (fun j hj hjl => by have := Hc.out; simp at hj; omega)
              have hit3 := hk3.at hit2 (by have := Hit2.out; have := Hc.out; simp; omega)
              have hpr3 : Ptr w3 p a0 n0 cap0 key idx pk pi sep := hk3.at (hk2.at hpr (by have := Hit2.out; have := Hc.out; simp; omega)) (by have := Hc.out; simp; omega)
              have H3 := Hid.mk (And.intro hk3' (And.intro hit3 (And.intro hcm3 hpr3)))
              clear hk2' hk2 hit2 hcm2 hk3' hit3 hcm3 hk3 hkp hit hcm hpr hpr3
              go_wp2_with fail
              go_roundg 1
              case measure => omega
              case rel => exact ⟨H3.out.1, H3.out.2.2.2, .inr (.inl ⟨rfl, H3.out.2.1, .inr ⟨Hx.out.1, (by have h := H3.out.2.2.1; rw [Hx.out.1, Hx.out.2]; exact h)⟩⟩)⟩
          · rcases HXY.out with ⟨hx, hy⟩ | ⟨hx, hy⟩
            · have Hx := Hid.mk (And.intro hx hy)
              rw [hx, hy] at hcm
              clear hx hy
              have hk2' : Kp [] w w2 := hkp.trans' hk2 (fun j hj hjl => by have := Hit2.out; simp at hj; omega)
              have hcm2 := hk2.at hcm (by have := Hit2.out; have := Hc.out; simp; omega)
              have hent := entry_run (b := 1) (e := ent m vd 1) hit2 (hk2'.at H.out.2 (by simp)) (by simp)
              have hlk := lookup_run (T := 179) (k := txt [m]) (i := 1) (v := .int .u8 1) false Tryz.underlying179 hcm2 (by simp [Instr.findNow, Instr.sameNow, txt_self, Hne.out.1, Hne.out.2])
              obtain ⟨w3, hput, hcm3, hk3⟩ := mset_run Tryz.underlying179 (k := txt [m]) (i := 1) (v0 := .int .u8 1) (b := 1) (.int .u8 3) hcm2 (by simp [Instr.findNow, Instr.sameNow, txt_self, Hne.out.1, Hne.out.2]) rfl
              replace hcm3 : w3.heap[c]? = some (.map #[en8 k 1 0, en8 m 3 1] 2) := by simpa using hcm3
              have hk3' : Kp [] w w3 := hk2'.trans' hk3 (fun j hj hjl => by have := Hc.out; simp at hj; omega)
              have hit3 := hk3.at hit2 (by have := Hit2.out; have := Hc.out; simp; omega)
              have hpr3 : Ptr w3 p a0 n0 cap0 key idx pk pi sep := hk3.at (hk2.at hpr (by have := Hit2.out; have := Hc.out; simp; omega)) (by have := Hc.out; simp; omega)
              have H3 := Hid.mk (And.intro hk3' (And.intro hit3 (And.intro hcm3 hpr3)))
              clear hk2' hk2 hit2 hcm2 hk3' hit3 hcm3 hk3 hkp hit hcm hpr hpr3
              go_wp2_with fail
              go_roundg 1
              case measure => omega
              case rel => exact ⟨H3.out.1, H3.out.2.2.2, .inr (.inr (.inl ⟨rfl, H3.out.2.1, .inr ⟨Hx.out.1, (by have h := H3.out.2.2.1; rw [Hx.out.1, Hx.out.2]; exact h)⟩⟩))⟩
            · have Hx := Hid.mk (And.intro hx hy)
              rw [hx, hy] at hcm
              clear hx hy
              have hk2' : Kp [] w w2 := hkp.trans' hk2 (fun j hj hjl => by have := Hit2.out; simp at hj; omega)
              have hcm2 := hk2.at hcm (by have := Hit2.out; have := Hc.out; simp; omega)
              have hent := entry_run (b := 1) (e := ent m vd 1) hit2 (hk2'.at H.out.2 (by simp)) (by simp)
              have hlk := lookup_run (T := 179) (k := txt [m]) (i := 0) (v := .int .u8 1) false Tryz.underlying179 hcm2 (by simp [Instr.findNow, Instr.sameNow, txt_self, Hne.out.1, Hne.out.2])
              obtain ⟨w3, hput, hcm3, hk3⟩ := mset_run Tryz.underlying179 (k := txt [m]) (i := 0) (v0 := .int .u8 1) (b := 0) (.int .u8 3) hcm2 (by simp [Instr.findNow, Instr.sameNow, txt_self, Hne.out.1, Hne.out.2]) rfl
              replace hcm3 : w3.heap[c]? = some (.map #[en8 m 3 0, en8 k 1 1] 2) := by simpa using hcm3
              have hk3' : Kp [] w w3 := hk2'.trans' hk3 (fun j hj hjl => by have := Hc.out; simp at hj; omega)
              have hit3 := hk3.at hit2 (by have := Hit2.out; have := Hc.out; simp; omega)
              have hpr3 : Ptr w3 p a0 n0 cap0 key idx pk pi sep := hk3.at (hk2.at hpr (by have := Hit2.out; have := Hc.out; simp; omega)) (by have := Hc.out; simp; omega)
              have H3 := Hid.mk (And.intro hk3' (And.intro hit3 (And.intro hcm3 hpr3)))
              clear hk2' hk2 hit2 hcm2 hk3' hit3 hcm3 hk3 hkp hit hcm hpr hpr3
              go_wp2_with fail
              go_roundg 1
              case measure => omega
              case rel => exact ⟨H3.out.1, H3.out.2.2.2, .inr (.inr (.inl ⟨rfl, H3.out.2.1, .inl ⟨Hx.out.1, (by have h := H3.out.2.2.1; rw [Hx.out.1, Hx.out.2]; exact h)⟩⟩))⟩
        · obtain ⟨i, hi, w2, hnext, hit2, hk2⟩ := next_more (T := 0) hit (hkp.at H.out.2 (by simp)) (by simp) #[ent m vd 1] (by simp) (by simp) (by simp) (by simp)
          obtain rfl : i = 0 := by simp at hi; omega
          rcases hcm with ⟨hx, hcm⟩ | ⟨hx, hcm⟩
          · have hy : y = m := by
              have h3 := HK.out.2.2
              rcases HXY.out with ⟨h1, h2⟩ | ⟨h1, h2⟩ <;> omega
            have Hx := Hid.mk (And.intro hx hy)
            rw [hx, hy] at hcm
            clear hx hy
            have hk2' : Kp [] w w2 := hkp.trans' hk2 (fun j hj hjl => by have := Hit2.out; simp at hj; omega)
            have hcm2 := hk2.at hcm (by have := Hit2.out; have := Hc.out; simp; omega)
            have hent := entry_run (b := 1) (e := ent m vd 1) hit2 (hk2'.at H.out.2 (by simp)) (by simp)
            have hlk := lookup_run (T := 179) (k := txt [m]) (i := 1) (v := .int .u8 1) false Tryz.underlying179 hcm2 (by simp [Instr.findNow, Instr.sameNow, txt_self, Hne.out.1, Hne.out.2])
            obtain ⟨w3, hput, hcm3, hk3⟩ := mset_run Tryz.underlying179 (k := txt [m]) (i := 1) (v0 := .int .u8 1) (b := 1) (.int .u8 3) hcm2 (by simp [Instr.findNow, Instr.sameNow, txt_self, Hne.out.1, Hne.out.2]) rfl
            replace hcm3 : w3.heap[c]? = some (.map #[en8 k 3 0, en8 m 3 1] 2) := by simpa using hcm3
            have hk3' : Kp [] w w3 := hk2'.trans' hk3 (fun j hj hjl => by have := Hc.out; simp at hj; omega)
            have hit3 := hk3.at hit2 (by have := Hit2.out; have := Hc.out; simp; omega)
            have hpr3 : Ptr w3 p a0 n0 cap0 key idx pk pi sep := hk3.at (hk2.at hpr (by have := Hit2.out; have := Hc.out; simp; omega)) (by have := Hc.out; simp; omega)
            have H3 := Hid.mk (And.intro hk3' (And.intro hit3 (And.intro hcm3 hpr3)))
            clear hk2' hk2 hit2 hcm2 hk3' hit3 hcm3 hk3 hkp hit hcm hpr hpr3
            go_wp2_with fail
            go_roundg 0
            case measure => omega
            case rel => exact ⟨H3.out.1, H3.out.2.2.2, .inr (.inr (.inr ⟨rfl, .inl H3.out.2.1, (by have h := H3.out.2.2.1; rw [Hx.out.1, Hx.out.2]; exact h)⟩))⟩
          · have hy : y = k := by
              have h3 := HK.out.2.2
              rcases HXY.out with ⟨h1, h2⟩ | ⟨h1, h2⟩ <;> omega
            have Hx := Hid.mk (And.intro hx hy)
            rw [hx, hy] at hcm
            clear hx hy
            have hk2' : Kp [] w w2 := hkp.trans' hk2 (fun j hj hjl => by have := Hit2.out; simp at hj; omega)
            have hcm2 := hk2.at hcm (by have := Hit2.out; have := Hc.out; simp; omega)
            have hent := entry_run (b := 1) (e := ent m vd 1) hit2 (hk2'.at H.out.2 (by simp)) (by simp)
            have hlk := lookup_run (T := 179) (k := txt [m]) (i := 0) (v := .int .u8 1) false Tryz.underlying179 hcm2 (by simp [Instr.findNow, Instr.sameNow, txt_self, Hne.out.1, Hne.out.2])
            obtain ⟨w3, hput, hcm3, hk3⟩ := mset_run Tryz.underlying179 (k := txt [m]) (i := 0) (v0 := .int .u8 1) (b := 0) (.int .u8 3) hcm2 (by simp [Instr.findNow, Instr.sameNow, txt_self, Hne.out.1, Hne.out.2]) rfl
            replace hcm3 : w3.heap[c]? = some (.map #[en8 m 3 0, en8 k 3 1] 2) := by simpa using hcm3
            have hk3' : Kp [] w w3 := hk2'.trans' hk3 (fun j hj hjl => by have := Hc.out; simp at hj; omega)
            have hit3 := hk3.at hit2 (by have := Hit2.out; have := Hc.out; simp; omega)
            have hpr3 : Ptr w3 p a0 n0 cap0 key idx pk pi sep := hk3.at (hk2.at hpr (by have := Hit2.out; have := Hc.out; simp; omega)) (by have := Hc.out; simp; omega)
            have H3 := Hid.mk (And.intro hk3' (And.intro hit3 (And.intro hcm3 hpr3)))
            clear hk2' hk2 hit2 hcm2 hk3' hit3 hcm3 hk3 hkp hit hcm hpr hpr3
            go_wp2_with fail
            go_roundg 0
            case measure => omega
            case rel => exact ⟨H3.out.1, H3.out.2.2.2, .inr (.inr (.inr ⟨rfl, .inl H3.out.2.1, (by have h := H3.out.2.2.1; rw [Hx.out.1, Hx.out.2]; exact h)⟩))⟩
        · obtain ⟨i, hi, w2, hnext, hit2, hk2⟩ := next_more (T := 0) hit (hkp.at H.out.2 (by simp)) (by simp) #[ent k vc 0] (by simp) (by simp) (by simp) (by simp)
          obtain rfl : i = 0 := by simp at hi; omega
          rcases hcm with ⟨hx, hcm⟩ | ⟨hx, hcm⟩
          · have hy : y = k := by
              have h3 := HK.out.2.2
              rcases HXY.out with ⟨h1, h2⟩ | ⟨h1, h2⟩ <;> omega
            have Hx := Hid.mk (And.intro hx hy)
            rw [hx, hy] at hcm
            clear hx hy
            have hk2' : Kp [] w w2 := hkp.trans' hk2 (fun j hj hjl => by have := Hit2.out; simp at hj; omega)
            have hcm2 := hk2.at hcm (by have := Hit2.out; have := Hc.out; simp; omega)
            have hent := entry_run (b := 0) (e := ent k vc 0) hit2 (hk2'.at H.out.2 (by simp)) (by simp)
            have hlk := lookup_run (T := 179) (k := txt [k]) (i := 1) (v := .int .u8 1) false Tryz.underlying179 hcm2 (by simp [Instr.findNow, Instr.sameNow, txt_self, Hne.out.1, Hne.out.2])
            obtain ⟨w3, hput, hcm3, hk3⟩ := mset_run Tryz.underlying179 (k := txt [k]) (i := 1) (v0 := .int .u8 1) (b := 1) (.int .u8 3) hcm2 (by simp [Instr.findNow, Instr.sameNow, txt_self, Hne.out.1, Hne.out.2]) rfl
            replace hcm3 : w3.heap[c]? = some (.map #[en8 m 3 0, en8 k 3 1] 2) := by simpa using hcm3
            have hk3' : Kp [] w w3 := hk2'.trans' hk3 (fun j hj hjl => by have := Hc.out; simp at hj; omega)
            have hit3 := hk3.at hit2 (by have := Hit2.out; have := Hc.out; simp; omega)
            have hpr3 : Ptr w3 p a0 n0 cap0 key idx pk pi sep := hk3.at (hk2.at hpr (by have := Hit2.out; have := Hc.out; simp; omega)) (by have := Hc.out; simp; omega)
            have H3 := Hid.mk (And.intro hk3' (And.intro hit3 (And.intro hcm3 hpr3)))
            clear hk2' hk2 hit2 hcm2 hk3' hit3 hcm3 hk3 hkp hit hcm hpr hpr3
            go_wp2_with fail
            go_roundg 0
            case measure => omega
            case rel => exact ⟨H3.out.1, H3.out.2.2.2, .inr (.inr (.inr ⟨rfl, .inr H3.out.2.1, (by have h := H3.out.2.2.1; rw [Hx.out.1, Hx.out.2]; exact h)⟩))⟩
          · have hy : y = m := by
              have h3 := HK.out.2.2
              rcases HXY.out with ⟨h1, h2⟩ | ⟨h1, h2⟩ <;> omega
            have Hx := Hid.mk (And.intro hx hy)
            rw [hx, hy] at hcm
            clear hx hy
            have hk2' : Kp [] w w2 := hkp.trans' hk2 (fun j hj hjl => by have := Hit2.out; simp at hj; omega)
            have hcm2 := hk2.at hcm (by have := Hit2.out; have := Hc.out; simp; omega)
            have hent := entry_run (b := 0) (e := ent k vc 0) hit2 (hk2'.at H.out.2 (by simp)) (by simp)
            have hlk := lookup_run (T := 179) (k := txt [k]) (i := 0) (v := .int .u8 1) false Tryz.underlying179 hcm2 (by simp [Instr.findNow, Instr.sameNow, txt_self, Hne.out.1, Hne.out.2])
            obtain ⟨w3, hput, hcm3, hk3⟩ := mset_run Tryz.underlying179 (k := txt [k]) (i := 0) (v0 := .int .u8 1) (b := 0) (.int .u8 3) hcm2 (by simp [Instr.findNow, Instr.sameNow, txt_self, Hne.out.1, Hne.out.2]) rfl
            replace hcm3 : w3.heap[c]? = some (.map #[en8 k 3 0, en8 m 3 1] 2) := by simpa using hcm3
            have hk3' : Kp [] w w3 := hk2'.trans' hk3 (fun j hj hjl => by have := Hc.out; simp at hj; omega)
            have hit3 := hk3.at hit2 (by have := Hit2.out; have := Hc.out; simp; omega)
            have hpr3 : Ptr w3 p a0 n0 cap0 key idx pk pi sep := hk3.at (hk2.at hpr (by have := Hit2.out; have := Hc.out; simp; omega)) (by have := Hc.out; simp; omega)
            have H3 := Hid.mk (And.intro hk3' (And.intro hit3 (And.intro hcm3 hpr3)))
            clear hk2' hk2 hit2 hcm2 hk3' hit3 hcm3 hk3 hkp hit hcm hpr hpr3
            go_wp2_with fail
            go_roundg 0
            case measure => omega
            case rel => exact ⟨H3.out.1, H3.out.2.2.2, .inr (.inr (.inr ⟨rfl, .inr H3.out.2.1, (by have h := H3.out.2.2.1; rw [Hx.out.1, Hx.out.2]; exact h)⟩))⟩
        · have hnext : (Instr.next (.pointer (some ⟨it2, 0, none⟩)) false 0).run Tryz.prog wr = .ok (.tuple #[.bool false]) wr := by
            rcases hit with hit | hit
            · exact next_over (T := 0) hit (hkp.at H.out.2 (by simp)) (by simp) (by simp)
            · exact next_over (T := 0) hit (hkp.at H.out.2 (by simp)) (by simp) (by simp)
          have H5 := Hid.mk (And.intro hkp (And.intro hpr hcm))
          clear hit hkp hpr hcm hb12
          go_upto_region 10 with (fail)
          have l3 := len_map Tryz.underlying179 H5.out.2.2 2 rfl
          have hms := make2_run wr
          go_upto_region 11 with (fail)
          clear l3 hms hnext
          obtain ⟨w6, hw6⟩ : ∃ w6, w6 = wr.alloc (.cells #[.string .empty, .string .empty] 9) := ⟨_, rfl⟩
          obtain ⟨g6, hg6⟩ : ∃ g6, g6 = wr.heap.size := ⟨_, rfl⟩
          rw [← hw6, ← hg6]
          have hk6 : Kp [] wr w6 := by rw [hw6]; exact (Kp.refl _ _).alloc _
          have hcm6 := hk6.at H5.out.2.2 (by simp)
          have hown6 : w6.ownsRow w.heap.size 9 1 (.slice (some ⟨g6, 0, none⟩) 0 2) 0 [] := by
            refine ⟨rfl, .inr ⟨g6, 2, #[.string .empty, .string .empty], rfl, ?_, ?_, by omega, by decide, rfl, rfl⟩⟩
            · rw [hg6]; exact H5.out.1.size
            · rw [hw6, hg6]; exact heap_alloc_same _ _
          have hgc : c < g6 ∧ p < g6 := by rw [hg6]; exact ⟨lt_of_heap H5.out.2.2, lt_of_heap H5.out.2.1⟩
          have hg7 : g6 < w6.heap.size := by rw [hg6, hw6]; simp
          have hrg := range_run Tryz.underlying179 hcm6
          have H6 := Hid.mk (And.intro (H5.out.1.trans hk6) (And.intro (hk6.at H5.out.2.1 (by simp)) (And.intro hcm6 (And.intro hown6 (And.intro hgc hg7)))))
          clear hw6 hg6 hk6 hcm6 hown6 hgc H5 hg7
          go_wp2_with fail
          clear hrg
          obtain ⟨it3, hitd⟩ : ∃ it3, it3 = w6.heap.size := ⟨_, rfl⟩
          obtain ⟨w7, hw7⟩ : ∃ w7, w7 = w6.alloc (.mapIter (some c) 2 #[] 2) := ⟨_, rfl⟩
          rw [← hw7, ← hitd]
          have hk67 : Kp [] w6 w7 := by rw [hw7]; exact (Kp.refl _ _).alloc _
          have hit7 : w7.heap[it3]? = some (.mapIter (some c) 2 #[] 2) := by rw [hw7, hitd]; exact heap_alloc_same _ _
          have H7 := Hid.mk (And.intro (H6.out.1.trans hk67) (And.intro (hk67.at H6.out.2.1 (by simp)) (And.intro (hk67.at H6.out.2.2.1 (by simp)) (And.intro (hk67.owns H6.out.2.2.2.1 (by simp)) hit7))))
          have Hit3 := Hid.mk (show w.heap.size ≤ it3 ∧ c < it3 ∧ p < it3 by
            have := H6.out.2.2.2.2
            have := H6.out.1.size
            omega)
          clear hw7 hitd hk67 hit7 H6
          go_loopg [13] 2 (fun f sv wr => Kp [] w wr ∧ Ptr wr p a0 n0 cap0 key idx pk pi sep ∧ wr.heap[c]? = some (.map #[en8 x 3 0, en8 y 3 1] 2) ∧ ∃ sa n scap xs, sv = .slice sa n scap ∧ wr.ownsRow w.heap.size 9 1 (.slice sa n scap) n xs ∧
            ((f = 2 ∧ wr.heap[it3]? = some (.mapIter (some c) 2 #[] 2) ∧ n = 0 ∧ xs = []) ∨
            (f = 1 ∧ wr.heap[it3]? = some (.mapIter (some c) 2 #[0] 2) ∧ n = 1 ∧ xs = [.string (txt [x])]) ∨ (f = 1 ∧ wr.heap[it3]? = some (.mapIter (some c) 2 #[1] 2) ∧ n = 1 ∧ xs = [.string (txt [y])]) ∨
            (f = 0 ∧ (wr.heap[it3]? = some (.mapIter (some c) 2 #[0, 1] 2) ∨ wr.heap[it3]? = some (.mapIter (some c) 2 #[1, 0] 2)) ∧ n = 2 ∧ (xs = [.string (txt [x]), .string (txt [y])] ∨ xs = [.string (txt [y]), .string (txt [x])]))))
          case atStart => exact ⟨H7.out.1, H7.out.2.1, H7.out.2.2.1, some ⟨g6, 0, none⟩, 0, 2, [], rfl, H7.out.2.2.2.1, .inl ⟨rfl, H7.out.2.2.2.2, rfl, rfl⟩⟩
          case round =>
            clear H7
            obtain ⟨hkp, hpr, hcm, sa, n, scap, xs, rfl, hown, ⟨rfl, hit, rfl, rfl⟩ | ⟨rfl, hit, rfl, rfl⟩ | ⟨rfl, hit, rfl, rfl⟩ | ⟨rfl, hit, rfl, hxs⟩⟩ := hrel
            · obtain ⟨i, hi, w2, hnext, hit2, hk2⟩ := next_more (T := 0) hit hcm (by simp) #[en8 x 3 0, en8 y 3 1] (by simp) (by simp) (by simp) (by simp)
              obtain rfl | rfl : i = 0 ∨ i = 1 := by simp at hi; omega
              · have hkpi : Kp [it3] wr w2 := hk2
                have hk2' : Kp [] w w2 := hkp.trans' hk2 (fun j hj hjl => by have := Hit3.out; simp at hj; omega)
                have hcm2 := hk2.at hcm (by have := Hit3.out; simp; omega)
                have hpr2 : Ptr w2 p a0 n0 cap0 key idx pk pi sep := hk2.at hpr (by have := Hit3.out; simp; omega)
                have hown2 := hk2.owns hown (fun j hj e => own_ne9 hown hit (by intro cur e; cases e) (by simp at e; rw [← e]; exact hj))
                have hent := entry_run (b := 0) (e := en8 x 3 0) hit2 hcm2 (by simp)
                have H8 := Hid.mk (And.intro hk2' (And.intro hcm2 (And.intro hpr2 (And.intro hown2 hit2))))
                clear hkpi hk2' hcm2 hpr2 hown2 hit2 hk2 hkp hpr hcm hown hit
                go_wp2_with (at_builtin; refine wpList_appStr rfl _ _ rfl w.heap.size sa 0 scap _ rfl (H8.out.2.2.2.1.alloc _) w2.heap.size 1 (txt [x]) rfl (by simp) (by omega) (by have := H8.out.1.size; simp; omega) ?_; intro a2 c2 w9 hown9 hgr9; have H9 := Hid.mk (And.intro hown9 hgr9); clear hown9 hgr9)
                go_roundg 1
                case measure => omega
                case rel =>
                  have hit9 := app_at H9.out.2 H8.out.2.2.2.2 (own_ne9 H8.out.2.2.2.1 H8.out.2.2.2.2 (by intro cur e; cases e))
                  have hcm9 := app_at H9.out.2 H8.out.2.1 (own_ne9 H8.out.2.2.2.1 H8.out.2.1 (by intro cur e; cases e))
                  have hpr9 : Ptr w9 p a0 n0 cap0 key idx pk pi sep := app_at H9.out.2 H8.out.2.2.1 (own_ne9 H8.out.2.2.2.1 H8.out.2.2.1 (by intro cur e; cases e))
                  have hk9 : Kp [] w w9 := (H8.out.1.alloc _).grown H9.out.2 (fun j hj => .inr (H8.out.2.2.2.1.lt j hj).1)
                  exact ⟨hk9, hpr9, hcm9, a2, _, c2, _, rfl, H9.out.1, .inr (.inl ⟨rfl, hit9, rfl, rfl⟩)⟩
              · have hkpi : Kp [it3] wr w2 := hk2
                have hk2' : Kp [] w w2 := hkp.trans' hk2 (fun j hj hjl => by have := Hit3.out; simp at hj; omega)
                have hcm2 := hk2.at hcm (by have := Hit3.out; simp; omega)
                have hpr2 : Ptr w2 p a0 n0 cap0 key idx pk pi sep := hk2.at hpr (by have := Hit3.out; simp; omega)
                have hown2 := hk2.owns hown (fun j hj e => own_ne9 hown hit (by intro cur e; cases e) (by simp at e; rw [← e]; exact hj))
                have hent := entry_run (b := 1) (e := en8 y 3 1) hit2 hcm2 (by simp)
                have H8 := Hid.mk (And.intro hk2' (And.intro hcm2 (And.intro hpr2 (And.intro hown2 hit2))))
                clear hkpi hk2' hcm2 hpr2 hown2 hit2 hk2 hkp hpr hcm hown hit
                go_wp2_with (at_builtin; refine wpList_appStr rfl _ _ rfl w.heap.size sa 0 scap _ rfl (H8.out.2.2.2.1.alloc _) w2.heap.size 1 (txt [y]) rfl (by simp) (by omega) (by have := H8.out.1.size; simp; omega) ?_; intro a2 c2 w9 hown9 hgr9; have H9 := Hid.mk (And.intro hown9 hgr9); clear hown9 hgr9)
                go_roundg 1
                case measure => omega
                case rel =>
                  have hit9 := app_at H9.out.2 H8.out.2.2.2.2 (own_ne9 H8.out.2.2.2.1 H8.out.2.2.2.2 (by intro cur e; cases e))
                  have hcm9 := app_at H9.out.2 H8.out.2.1 (own_ne9 H8.out.2.2.2.1 H8.out.2.1 (by intro cur e; cases e))
                  have hpr9 : Ptr w9 p a0 n0 cap0 key idx pk pi sep := app_at H9.out.2 H8.out.2.2.1 (own_ne9 H8.out.2.2.2.1 H8.out.2.2.1 (by intro cur e; cases e))
                  have hk9 : Kp [] w w9 := (H8.out.1.alloc _).grown H9.out.2 (fun j hj => .inr (H8.out.2.2.2.1.lt j hj).1)
                  exact ⟨hk9, hpr9, hcm9, a2, _, c2, _, rfl, H9.out.1, .inr (.inr (.inl ⟨rfl, hit9, rfl, rfl⟩))⟩
            · obtain ⟨i, hi, w2, hnext, hit2, hk2⟩ := next_more (T := 0) hit hcm (by simp) #[en8 y 3 1] (by simp) (by simp) (by simp) (by simp)
              obtain rfl : i = 0 := by simp at hi; omega
              have hkpi : Kp [it3] wr w2 := hk2
              have hk2' : Kp [] w w2 := hkp.trans' hk2 (fun j hj hjl => by have := Hit3.out; simp at hj; omega)
              have hcm2 := hk2.at hcm (by have := Hit3.out; simp; omega)
              have hpr2 : Ptr w2 p a0 n0 cap0 key idx pk pi sep := hk2.at hpr (by have := Hit3.out; simp; omega)
              have hown2 := hk2.owns hown (fun j hj e => own_ne9 hown hit (by intro cur e; cases e) (by simp at e; rw [← e]; exact hj))
              have hent := entry_run (b := 1) (e := en8 y 3 1) hit2 hcm2 (by simp)
              have H8 := Hid.mk (And.intro hk2' (And.intro hcm2 (And.intro hpr2 (And.intro hown2 hit2))))
              clear hkpi hk2' hcm2 hpr2 hown2 hit2 hk2 hkp hpr hcm hown hit
              go_wp2_with (at_builtin; refine wpList_appStr rfl _ _ rfl w.heap.size sa 1 scap _ rfl (H8.out.2.2.2.1.alloc _) w2.heap.size 1 (txt [y]) rfl (by simp) (by omega) (by have := H8.out.1.size; simp; omega) ?_; intro a2 c2 w9 hown9 hgr9; have H9 := Hid.mk (And.intro hown9 hgr9); clear hown9 hgr9)
              go_roundg 0
              case measure => omega
              case rel =>
                have hit9 := app_at H9.out.2 H8.out.2.2.2.2 (own_ne9 H8.out.2.2.2.1 H8.out.2.2.2.2 (by intro cur e; cases e))
                have hcm9 := app_at H9.out.2 H8.out.2.1 (own_ne9 H8.out.2.2.2.1 H8.out.2.1 (by intro cur e; cases e))
                have hpr9 : Ptr w9 p a0 n0 cap0 key idx pk pi sep := app_at H9.out.2 H8.out.2.2.1 (own_ne9 H8.out.2.2.2.1 H8.out.2.2.1 (by intro cur e; cases e))
                have hk9 : Kp [] w w9 := (H8.out.1.alloc _).grown H9.out.2 (fun j hj => .inr (H8.out.2.2.2.1.lt j hj).1)
                exact ⟨hk9, hpr9, hcm9, a2, _, c2, _, rfl, H9.out.1, .inr (.inr (.inr ⟨rfl, .inl hit9, rfl, .inl rfl⟩))⟩
            · obtain ⟨i, hi, w2, hnext, hit2, hk2⟩ := next_more (T := 0) hit hcm (by simp) #[en8 x 3 0] (by simp) (by simp) (by simp) (by simp)
              obtain rfl : i = 0 := by simp at hi; omega
              have hkpi : Kp [it3] wr w2 := hk2
              have hk2' : Kp [] w w2 := hkp.trans' hk2 (fun j hj hjl => by have := Hit3.out; simp at hj; omega)
              have hcm2 := hk2.at hcm (by have := Hit3.out; simp; omega)
              have hpr2 : Ptr w2 p a0 n0 cap0 key idx pk pi sep := hk2.at hpr (by have := Hit3.out; simp; omega)
              have hown2 := hk2.owns hown (fun j hj e => own_ne9 hown hit (by intro cur e; cases e) (by simp at e; rw [← e]; exact hj))
              have hent := entry_run (b := 0) (e := en8 x 3 0) hit2 hcm2 (by simp)
              have H8 := Hid.mk (And.intro hk2' (And.intro hcm2 (And.intro hpr2 (And.intro hown2 hit2))))
              clear hkpi hk2' hcm2 hpr2 hown2 hit2 hk2 hkp hpr hcm hown hit
              go_wp2_with (at_builtin; refine wpList_appStr rfl _ _ rfl w.heap.size sa 1 scap _ rfl (H8.out.2.2.2.1.alloc _) w2.heap.size 1 (txt [x]) rfl (by simp) (by omega) (by have := H8.out.1.size; simp; omega) ?_; intro a2 c2 w9 hown9 hgr9; have H9 := Hid.mk (And.intro hown9 hgr9); clear hown9 hgr9)
              go_roundg 0
              case measure => omega
              case rel =>
                have hit9 := app_at H9.out.2 H8.out.2.2.2.2 (own_ne9 H8.out.2.2.2.1 H8.out.2.2.2.2 (by intro cur e; cases e))
                have hcm9 := app_at H9.out.2 H8.out.2.1 (own_ne9 H8.out.2.2.2.1 H8.out.2.1 (by intro cur e; cases e))
                have hpr9 : Ptr w9 p a0 n0 cap0 key idx pk pi sep := app_at H9.out.2 H8.out.2.2.1 (own_ne9 H8.out.2.2.2.1 H8.out.2.2.1 (by intro cur e; cases e))
                have hk9 : Kp [] w w9 := (H8.out.1.alloc _).grown H9.out.2 (fun j hj => .inr (H8.out.2.2.2.1.lt j hj).1)
                exact ⟨hk9, hpr9, hcm9, a2, _, c2, _, rfl, H9.out.1, .inr (.inr (.inr ⟨rfl, .inr hit9, rfl, .inr rfl⟩))⟩
            · have hnext : (Instr.next (.pointer (some ⟨it3, 0, none⟩)) false 0).run Tryz.prog wr = .ok (.tuple #[.bool false]) wr := by
                rcases hit with hit | hit
                · exact next_over (T := 0) hit hcm (by simp) (by simp)
                · exact next_over (T := 0) hit hcm (by simp) (by simp)
              have hown2 : ∃ u v, (u = k ∧ v = m ∨ u = m ∧ v = k) ∧ wr.ownsRow w.heap.size 9 1 (.slice sa 2 scap) 2 [.string (txt [u]), .string (txt [v])] := by
                rcases HXY.out with ⟨h1, h2⟩ | ⟨h1, h2⟩ <;> rcases hxs with rfl | rfl <;> rw [h1, h2] at hown
                · exact ⟨k, m, .inl ⟨rfl, rfl⟩, hown⟩
                · exact ⟨m, k, .inr ⟨rfl, rfl⟩, hown⟩
                · exact ⟨m, k, .inr ⟨rfl, rfl⟩, hown⟩
                · exact ⟨k, m, .inl ⟨rfl, rfl⟩, hown⟩
              obtain ⟨u, v, huv, hown2⟩ := hown2
              have H9 := Hid.mk (And.intro hkp (And.intro hpr (And.intro hcm (And.intro hown2 huv))))
              clear hit hkp hpr hcm hown hown2 huv hxs
              go_wp2_with fail
              refine (sort_keys HK.out.1 HK.out.2.1 HK.out.2.2 H9.out.2.2.2.2 H9.out.2.2.2.1).mono ?_
              rintro e w9 ⟨rfl, hown9, hk9⟩
              have hpa : p ∉ rowOf sa := by
                intro h
                refine own_ne9 H9.out.2.2.2.1 H9.out.2.1 (by intro cur e; cases e) ?_
                cases sa with
                | none => simp [rowOf] at h
                | some z => simp [rowOf] at h; simp [Value.ownBlock, h]
              have hca : c ∉ rowOf sa := by
                intro h
                refine own_ne9 H9.out.2.2.2.1 H9.out.2.2.1 (by intro cur e; cases e) ?_
                cases sa with
                | none => simp [rowOf] at h
                | some z => simp [rowOf] at h; simp [Value.ownBlock, h]
              have hkw9 : Kp [] w w9 := H9.out.1.trans' hk9 (fun j hj hjl => by
                exfalso
                cases sa with
                | none => simp [rowOf] at hj
                | some z =>
                  have := (H9.out.2.2.2.1.lt z.block rfl).1
                  simp [rowOf] at hj
                  omega)
              have H10 := Hid.mk (And.intro hkw9 (And.intro (hk9.at H9.out.2.1 hpa) (And.intro (hk9.at H9.out.2.2.1 hca) (And.intro hown9 (And.intro hpa hca)))))
              clear hown9 hk9 hpa hca hkw9 hnext
              go_wp2_with fail
              refine (snapshot_any p n0 cap0 a0 key idx pk pi sep _ H10.out.2.1).mono ?_
              rintro e w10 ⟨rfl, hp10, hk10⟩
              have H11 := Hid.mk (And.intro hp10 hk10)
              clear hp10 hk10
              go_wp2_with fail
              have hk011 : Kp [] w w10 := H10.out.1.trans' H11.out.2 (fun j hj hjl => by have := Hc.out; simp at hj; omega)
              have hd11 : d < w.heap.size := HX.out.2.1.lt
              have hpd : p ≠ d := by have := Hc.out; omega
              have hpn : ∀ g, g ∈ [p] → g < w.heap.size → False := fun j hj hjl => by have := Hc.out; simp at hj; omega
              have hc11 := H11.out.2.at H10.out.2.2.1 (by have := Hc.out; simp; omega)
              have hkr11 := H11.out.2.owns H10.out.2.2.2.1 (fun j hj e => by simp at e; subst e; exact H10.out.2.2.2.2.1 (own_row hj))
              have hb11 : Buf w0.heap.size w10 a0 n0 cap0 cs0 := hk011.owns HX.out.2.2.2.1 (by simp)
              have hpa0 : p ∉ rowOf a0 := fun h => by have := (rowOf_mem HX.out.2.2.2.1 p h).2; have := Hc.out; omega
              have hda0 : d ∉ rowOf a0 := fun h => by
                have h1 := (rowOf_mem HX.out.2.2.2.1 d h).1
                have h2 := lt_of_heap HR.out.1
                have h3 := HB.out
                omega
              have H12 := Hid.mk (And.intro hk011 (And.intro hc11 (And.intro hkr11 (And.intro hb11 (And.intro hpa0 (And.intro hda0 hpd))))))
              clear hk011 hd11 hpd hpn hc11 hkr11 hb11 hpa0 hda0
              go_loopg [64] 2 (fun f vi wr => ∃ (i : Nat) (a1 : Option Addr) (cap1 : Nat) (keyx : ByteArray) (idxx : Int), vi = .int .i64 i ∧ f + i = 2 ∧ Ptr wr p a1 n0 cap1 keyx idxx key idx n0 ∧ Buf w0.heap.size wr a1 n0 cap1 cs0 ∧ p ∉ rowOf a1 ∧ Elder w0.heap.size wr a0 n0 cap0 cs0 a1 n0 cap1 cs0 ∧
                Dif wr d C ∧ Kp (d :: rowOf a0) w wr ∧ wr.heap[c]? = some (.map #[en8 x 3 0, en8 y 3 1] 2) ∧ wr.ownsRow w.heap.size 9 1 (.slice sa 2 scap) 2 [.string (txt [k]), .string (txt [m])] ∧ (∀ g ∈ rowOf a1, g ∈ rowOf a0 ∨ w.heap.size ≤ g))
              case atStart => exact ⟨0, a0, cap0, key, idx, rfl, rfl, H11.out.1, H12.out.2.2.2.1, H12.out.2.2.2.2.1, Elder.refl H12.out.2.2.2.1, HX.out.2.1.kept H12.out.1 (by simp), H12.out.1.mono (by simp), H12.out.2.1, H12.out.2.2.1, fun g hg => .inl hg⟩
              case round =>
                obtain ⟨i, a1, cap1, keyx, idxx, rfl, hfi, hpr, hbf, hpa1, held, hdif, hkp, hcm, hkr, hrow⟩ := hrel
                have H13 := Hid.mk (And.intro hpr (And.intro hbf (And.intro hpa1 (And.intro held (And.intro hdif (And.intro hkp (And.intro hcm (And.intro hkr hrow))))))))
                clear hpr hbf hpa1 held hdif hkp hcm hkr hrow
                obtain rfl | rfl | rfl : i = 0 ∨ i = 1 ∨ i = 2 := by omega
                · obtain rfl : gk = 2 := by omega
                  obtain ⟨gs, rfl, hg1, hg2, hcs⟩ := own_cells H13.out.2.2.2.2.2.2.2.1 (by omega)
                  have hcell : wr.cell? ⟨gs, 0, none⟩ = some (.string (txt [k])) := hcs 0 (by omega)
                  have hlk : (Instr.lookup 179 (.map (some c)) (.string (txt [k])) false).run Tryz.prog wr = .ok (.int .u8 3) wr := by
                    rcases HXY.out with ⟨h1, h2⟩ | ⟨h1, h2⟩
                    · exact lookup_run (i := 0) false Tryz.underlying179 H13.out.2.2.2.2.2.2.1 (by simp [h1, h2, Instr.findNow, Instr.sameNow, txt_self, Hne.out.1, Hne.out.2])
                    · exact lookup_run (i := 1) false Tryz.underlying179 H13.out.2.2.2.2.2.2.1 (by simp [h1, h2, Instr.findNow, Instr.sameNow, txt_self, Hne.out.1, Hne.out.2])
                  have hb31 : bits BinOp.and IntKind.u8 3 1 = 1 := by kernel_rfl
                  have hb32 : bits BinOp.and IntKind.u8 3 2 = 2 := by kernel_rfl
                  clear hcs hg1 hg2
                  go_wp2_with fail
                  have hwr : w0.heap.size ≤ wr.heap.size := Nat.le_trans HX.out.1.size H13.out.2.2.2.2.2.1.size
                  have hdl : d < w0.heap.size := by have h2 := lt_of_heap HR.out.1; have h3 := HB.out; omega
                  have hdw : d < w.heap.size := HX.out.2.1.lt
                  have hpw : w.heap.size ≤ p := by have := Hc.out; omega
                  have hda1 : d ∉ rowOf a1 := fun h => by
                    rcases H13.out.2.2.2.2.2.2.2.2 d h with h1 | h1
                    · exact H12.out.2.2.2.2.2.1 h1
                    · omega
                  refine (appendKey_any w0.heap.size p k n0 cap1 a1 cs0 keyx idxx key idx n0 wr HK.out.1 H13.out.1 H13.out.2.1 H13.out.2.2.1 hwr (by have := HB.out; omega)).mono ?_
                  rintro e w2 ⟨rfl, a2, cap2, hp2, hy2⟩
                  have hda2 : d ∉ rowOf a2 := fun h => by
                    rcases hy2.2.2.2.1 d h with h1 | h1
                    · exact hda1 h1
                    · have := H13.out.2.2.2.2.2.1.size; omega
                  have hd2 : Dif w2 d C := H13.out.2.2.2.2.1.kept hy2.2.2.1 (by simp; exact ⟨fun e => H12.out.2.2.2.2.2.2 e.symm, hda1⟩)
                  have hkw2 : Kp (d :: rowOf a0) w w2 := H13.out.2.2.2.2.2.1.trans' hy2.2.2.1 (fun j hj hjl => by
                    simp only [List.mem_cons] at hj ⊢
                    rcases hj with h1 | h1
                    · omega
                    · rcases H13.out.2.2.2.2.2.2.2.2 j h1 with h2 | h2
                      · exact .inr h2
                      · omega)
                  have hk02 : Kp [d] w0 w2 := HX.out.1.trans' hkw2 (fun j hj hjl => by
                    simp only [List.mem_cons] at hj ⊢
                    rcases hj with h1 | h1
                    · exact .inl h1
                    · have := (rowOf_mem HX.out.2.2.2.1 j h1).1; omega)
                  have hl1 := lookup_run (T := 121) (k := txt [k]) (i := 0) (v := va) false Tryz.underlying121 (hk02.at HR.out.1 (by have := HB.out; simp; omega)) (by simp [Instr.findNow, Instr.sameNow, txt_self, Hne.out.1, Hne.out.2])
                  have hl2 := lookup_run (T := 121) (k := txt [k]) (i := 0) (v := vc) false Tryz.underlying121 (hk02.at HR.out.2 (by have := HB.out; simp; omega)) (by simp [Instr.findNow, Instr.sameNow, txt_self, Hne.out.1, Hne.out.2])
                  have hc6 := (hd2.cell 6 (by decide)).trans HX.out.2.2.1.c6
                  have hcp2 := blk_cell hp2
                  have hcR : c ∉ p :: rowOf a1 := by
                    have h1 := row_ne H13.out.2.1 H13.out.2.2.2.2.2.2.1 (by intro cur e; cases e)
                    have := Hc.out
                    simp only [List.mem_cons, not_or]
                    exact ⟨by omega, h1⟩
                  have hcm2 := hy2.2.2.1.at H13.out.2.2.2.2.2.2.1 hcR
                  have hgsR : gs ∉ p :: rowOf a1 := by
                    obtain ⟨cur, hcur⟩ := own_heap H13.out.2.2.2.2.2.2.2.1
                    have h1 := row_ne H13.out.2.1 hcur (by intro cur e; cases e)
                    simp only [List.mem_cons, not_or]
                    refine ⟨?_, h1⟩
                    rintro rfl
                    have h2 := H13.out.1
                    unfold Ptr at h2
                    rw [hcur] at h2
                    cases h2
                  have hkr2 := hy2.2.2.1.owns H13.out.2.2.2.2.2.2.2.1 (fun j hj => by cases hj; exact hgsR)
                  have H14 := Hid.mk (And.intro hp2 (And.intro hy2 (And.intro hd2 (And.intro hkw2 (And.intro hk02 (And.intro hcm2 (And.intro hkr2 (And.intro hda2 (And.intro hwr (And.intro hdl (And.intro hdw hpw)))))))))))
                  clear hp2 hy2 hd2 hkw2 hk02 hcm2 hkr2 hda2 hwr hdl hdw hpw hcR hgsR hda1
                  go_wp2_with fail
                  refine (ihA d B B' C w0 w2 va vc a2 (n0 + 1 + 1) cap2 (cs0 ++ [47] ++ [k]) (txt [k]) 0 key idx n0 t HX.out.2.2.2.2.1 HX.out.2.2.2.2.2.2.1 H14.out.2.2.2.2.1 H14.out.2.2.2.2.2.2.2.2.2.1 HB.out.1 HB.out.2.1 H14.out.2.2.1 HX.out.2.2.1 H14.out.2.1.1 (by have := HB.out; omega)).mono ?_
                  rintro e w3 ⟨rfl, hd3, hk3, hb3⟩
                  have hpR : p ∉ d :: rowOf a2 := by
                    simp only [List.mem_cons, not_or]
                    exact ⟨H12.out.2.2.2.2.2.2, H14.out.2.1.2.1⟩
                  have hp3 := hk3.at H14.out.1 hpR
                  have H15 := Hid.mk (And.intro hd3 (And.intro hk3 (And.intro hb3 (And.intro hpR hp3))))
                  clear hd3 hk3 hb3 hpR hp3
                  go_wp2_with fail
                  refine (rewind_any p (n0 + 1 + 1) cap2 n0 a2 (txt [k]) 0 key idx w3 H15.out.2.2.2.2 (by omega) (own_cap H15.out.2.2.1).1).mono ?_
                  rintro e w4 ⟨rfl, hp4, hk4⟩
                  have H16 := Hid.mk (And.intro hp4 hk4)
                  clear hp4 hk4
                  go_wp2_with fail
                  go_roundg 1
                  case measure => omega
                  case rel =>
                    have hn0 : cs0.length = n0 := by have := HX.out.2.2.2.1.1; simpa using this
                    have htk : (cs0 ++ [47] ++ [k]).take n0 = cs0 := by
                      rw [List.append_assoc, List.take_append_of_le_length (by omega), List.take_of_length_le (by omega)]
                    have hb4 := H16.out.2.owns H15.out.2.2.1 (fun j hj e => by
                      simp only [List.mem_singleton] at e
                      subst e
                      exact H14.out.2.1.2.1 (own_row hj))
                    have hb5 := own_take hb4 (m := n0) (by omega)
                    rw [← List.map_take, htk] at hb5
                    have he2 := H14.out.2.1.2.2.2.2 a0 n0 cap0 cs0 H12.out.2.2.2.2.1 H13.out.2.2.2.1
                    have he3 := he2.kept H15.out.2.1 (fun g hg => by
                      simp only [List.mem_cons] at hg
                      rcases hg with h1 | h1
                      · have := H14.out.2.2.2.2.2.2.2.2.2.1; exact .inr (.inl (by omega))
                      · exact .inl h1)
                    have he4 := he3.kept H16.out.2 (fun g hg => by simp only [List.mem_singleton] at hg; subst hg; exact .inr (.inr (.inr H12.out.2.2.2.2.1)))
                    have he5 := he4.cut (Nat.le_refl n0)
                    rw [htk] at he5
                    have hra2 : ∀ g ∈ rowOf a2, g ∈ rowOf a0 ∨ w.heap.size ≤ g := fun g hg => by
                      rcases H14.out.2.1.2.2.2.1 g hg with h1 | h1
                      · exact H13.out.2.2.2.2.2.2.2.2 g h1
                      · have := H13.out.2.2.2.2.2.1.size; exact .inr (by omega)
                    have hk5 : Kp (d :: rowOf a0) w w3 := H14.out.2.2.2.1.trans' H15.out.2.1 (fun j hj hjl => by
                      simp only [List.mem_cons] at hj ⊢
                      rcases hj with h1 | h1
                      · exact .inl h1
                      · rcases hra2 j h1 with h2 | h2
                        · exact .inr h2
                        · omega)
                    have hk6 : Kp (d :: rowOf a0) w w4 := hk5.trans' H16.out.2 (fun j hj hjl => by
                      simp only [List.mem_singleton] at hj
                      have := H14.out.2.2.2.2.2.2.2.2.2.2.2
                      omega)
                    have hb2 : Buf w0.heap.size w2 a2 (n0 + 1 + 1) cap2 (cs0 ++ [47] ++ [k]) := H14.out.2.1.1
                    have hcR : c ∉ d :: rowOf a2 := by
                      have h1 := row_ne hb2 H14.out.2.2.2.2.2.1 (by intro cur e; cases e)
                      have := Hc.out
                      have := H14.out.2.2.2.2.2.2.2.2.2.2.1
                      simp only [List.mem_cons, not_or]
                      exact ⟨by omega, h1⟩
                    have hgsR : gs ∉ d :: rowOf a2 := by
                      obtain ⟨cur, hcur⟩ := own_heap H14.out.2.2.2.2.2.2.1
                      have h1 := row_ne hb2 hcur (by intro cur e; cases e)
                      have h2 := (H14.out.2.2.2.2.2.2.1.lt gs rfl).1
                      have := H14.out.2.2.2.2.2.2.2.2.2.2.1
                      simp only [List.mem_cons, not_or]
                      exact ⟨by omega, h1⟩
                    have hcm4 := H16.out.2.at (H15.out.2.1.at H14.out.2.2.2.2.2.1 hcR) (by have := Hc.out; simp; omega)
                    have hgp : gs ≠ p := by
                      rintro rfl
                      obtain ⟨cur, hcur⟩ := own_heap H14.out.2.2.2.2.2.2.1
                      have h2 := H14.out.1
                      unfold Ptr at h2
                      rw [hcur] at h2
                      cases h2
                    have hkr4 := H16.out.2.owns (H15.out.2.1.owns H14.out.2.2.2.2.2.2.1 (fun j hj => by cases hj; exact hgsR)) (fun j hj => by cases hj; simpa using hgp)
                    exact ⟨1, a2, cap2, key, idx, rfl, rfl, H16.out.1, hb5, H14.out.2.1.2.1, he5, H15.out.1.kept H16.out.2 (by simpa using fun e => H12.out.2.2.2.2.2.2 e.symm), hk6, hcm4, hkr4, hra2⟩
                · obtain rfl : gk = 1 := by omega
                  obtain ⟨gs, rfl, hg1, hg2, hcs⟩ := own_cells H13.out.2.2.2.2.2.2.2.1 (by omega)
                  have hcell : wr.cell? ⟨gs, 1, none⟩ = some (.string (txt [m])) := hcs 1 (by omega)
                  have hlk : (Instr.lookup 179 (.map (some c)) (.string (txt [m])) false).run Tryz.prog wr = .ok (.int .u8 3) wr := by
                    rcases HXY.out with ⟨h1, h2⟩ | ⟨h1, h2⟩
                    · exact lookup_run (i := 1) false Tryz.underlying179 H13.out.2.2.2.2.2.2.1 (by simp [h1, h2, Instr.findNow, Instr.sameNow, txt_self, Hne.out.1, Hne.out.2])
                    · exact lookup_run (i := 0) false Tryz.underlying179 H13.out.2.2.2.2.2.2.1 (by simp [h1, h2, Instr.findNow, Instr.sameNow, txt_self, Hne.out.1, Hne.out.2])
                  have hb31 : bits BinOp.and IntKind.u8 3 1 = 1 := by kernel_rfl
                  have hb32 : bits BinOp.and IntKind.u8 3 2 = 2 := by kernel_rfl
                  clear hcs hg1 hg2
                  go_wp2_with fail
                  have hwr : w0.heap.size ≤ wr.heap.size := Nat.le_trans HX.out.1.size H13.out.2.2.2.2.2.1.size
                  have hdl : d < w0.heap.size := by have h2 := lt_of_heap HR.out.1; have h3 := HB.out; omega
                  have hdw : d < w.heap.size := HX.out.2.1.lt
                  have hpw : w.heap.size ≤ p := by have := Hc.out; omega
                  have hda1 : d ∉ rowOf a1 := fun h => by
                    rcases H13.out.2.2.2.2.2.2.2.2 d h with h1 | h1
                    · exact H12.out.2.2.2.2.2.1 h1
                    · omega
                  refine (appendKey_any w0.heap.size p m n0 cap1 a1 cs0 keyx idxx key idx n0 wr HK.out.2.1 H13.out.1 H13.out.2.1 H13.out.2.2.1 hwr (by have := HB.out; omega)).mono ?_
                  rintro e w2 ⟨rfl, a2, cap2, hp2, hy2⟩
                  have hda2 : d ∉ rowOf a2 := fun h => by
                    rcases hy2.2.2.2.1 d h with h1 | h1
                    · exact hda1 h1
                    · have := H13.out.2.2.2.2.2.1.size; omega
                  have hd2 : Dif w2 d C := H13.out.2.2.2.2.1.kept hy2.2.2.1 (by simp; exact ⟨fun e => H12.out.2.2.2.2.2.2 e.symm, hda1⟩)
                  have hkw2 : Kp (d :: rowOf a0) w w2 := H13.out.2.2.2.2.2.1.trans' hy2.2.2.1 (fun j hj hjl => by
                    simp only [List.mem_cons] at hj ⊢
                    rcases hj with h1 | h1
                    · omega
                    · rcases H13.out.2.2.2.2.2.2.2.2 j h1 with h2 | h2
                      · exact .inr h2
                      · omega)
                  have hk02 : Kp [d] w0 w2 := HX.out.1.trans' hkw2 (fun j hj hjl => by
                    simp only [List.mem_cons] at hj ⊢
                    rcases hj with h1 | h1
                    · exact .inl h1
                    · have := (rowOf_mem HX.out.2.2.2.1 j h1).1; omega)
                  have hl1 := lookup_run (T := 121) (k := txt [m]) (i := 1) (v := vb) false Tryz.underlying121 (hk02.at HR.out.1 (by have := HB.out; simp; omega)) (by simp [Instr.findNow, Instr.sameNow, txt_self, Hne.out.1, Hne.out.2])
                  have hl2 := lookup_run (T := 121) (k := txt [m]) (i := 1) (v := vd) false Tryz.underlying121 (hk02.at HR.out.2 (by have := HB.out; simp; omega)) (by simp [Instr.findNow, Instr.sameNow, txt_self, Hne.out.1, Hne.out.2])
                  have hc6 := (hd2.cell 6 (by decide)).trans HX.out.2.2.1.c6
                  have hcp2 := blk_cell hp2
                  have hcR : c ∉ p :: rowOf a1 := by
                    have h1 := row_ne H13.out.2.1 H13.out.2.2.2.2.2.2.1 (by intro cur e; cases e)
                    have := Hc.out
                    simp only [List.mem_cons, not_or]
                    exact ⟨by omega, h1⟩
                  have hcm2 := hy2.2.2.1.at H13.out.2.2.2.2.2.2.1 hcR
                  have hgsR : gs ∉ p :: rowOf a1 := by
                    obtain ⟨cur, hcur⟩ := own_heap H13.out.2.2.2.2.2.2.2.1
                    have h1 := row_ne H13.out.2.1 hcur (by intro cur e; cases e)
                    simp only [List.mem_cons, not_or]
                    refine ⟨?_, h1⟩
                    rintro rfl
                    have h2 := H13.out.1
                    unfold Ptr at h2
                    rw [hcur] at h2
                    cases h2
                  have hkr2 := hy2.2.2.1.owns H13.out.2.2.2.2.2.2.2.1 (fun j hj => by cases hj; exact hgsR)
                  have H14 := Hid.mk (And.intro hp2 (And.intro hy2 (And.intro hd2 (And.intro hkw2 (And.intro hk02 (And.intro hcm2 (And.intro hkr2 (And.intro hda2 (And.intro hwr (And.intro hdl (And.intro hdw hpw)))))))))))
                  clear hp2 hy2 hd2 hkw2 hk02 hcm2 hkr2 hda2 hwr hdl hdw hpw hcR hgsR hda1
                  go_wp2_with fail
                  refine (ihB d B B' C w0 w2 vb vd a2 (n0 + 1 + 1) cap2 (cs0 ++ [47] ++ [m]) (txt [m]) 0 key idx n0 t HX.out.2.2.2.2.2.1 HX.out.2.2.2.2.2.2.2 H14.out.2.2.2.2.1 H14.out.2.2.2.2.2.2.2.2.2.1 HB.out.1 HB.out.2.1 H14.out.2.2.1 HX.out.2.2.1 H14.out.2.1.1 (by have := HB.out; omega)).mono ?_
                  rintro e w3 ⟨rfl, hd3, hk3, hb3⟩
                  have hpR : p ∉ d :: rowOf a2 := by
                    simp only [List.mem_cons, not_or]
                    exact ⟨H12.out.2.2.2.2.2.2, H14.out.2.1.2.1⟩
                  have hp3 := hk3.at H14.out.1 hpR
                  have H15 := Hid.mk (And.intro hd3 (And.intro hk3 (And.intro hb3 (And.intro hpR hp3))))
                  clear hd3 hk3 hb3 hpR hp3
                  go_wp2_with fail
                  refine (rewind_any p (n0 + 1 + 1) cap2 n0 a2 (txt [m]) 0 key idx w3 H15.out.2.2.2.2 (by omega) (own_cap H15.out.2.2.1).1).mono ?_
                  rintro e w4 ⟨rfl, hp4, hk4⟩
                  have H16 := Hid.mk (And.intro hp4 hk4)
                  clear hp4 hk4
                  go_wp2_with fail
                  go_roundg 0
                  case measure => omega
                  case rel =>
                    have hn0 : cs0.length = n0 := by have := HX.out.2.2.2.1.1; simpa using this
                    have htk : (cs0 ++ [47] ++ [m]).take n0 = cs0 := by
                      rw [List.append_assoc, List.take_append_of_le_length (by omega), List.take_of_length_le (by omega)]
                    have hb4 := H16.out.2.owns H15.out.2.2.1 (fun j hj e => by
                      simp only [List.mem_singleton] at e
                      subst e
                      exact H14.out.2.1.2.1 (own_row hj))
                    have hb5 := own_take hb4 (m := n0) (by omega)
                    rw [← List.map_take, htk] at hb5
                    have he2 := H14.out.2.1.2.2.2.2 a0 n0 cap0 cs0 H12.out.2.2.2.2.1 H13.out.2.2.2.1
                    have he3 := he2.kept H15.out.2.1 (fun g hg => by
                      simp only [List.mem_cons] at hg
                      rcases hg with h1 | h1
                      · have := H14.out.2.2.2.2.2.2.2.2.2.1; exact .inr (.inl (by omega))
                      · exact .inl h1)
                    have he4 := he3.kept H16.out.2 (fun g hg => by simp only [List.mem_singleton] at hg; subst hg; exact .inr (.inr (.inr H12.out.2.2.2.2.1)))
                    have he5 := he4.cut (Nat.le_refl n0)
                    rw [htk] at he5
                    have hra2 : ∀ g ∈ rowOf a2, g ∈ rowOf a0 ∨ w.heap.size ≤ g := fun g hg => by
                      rcases H14.out.2.1.2.2.2.1 g hg with h1 | h1
                      · exact H13.out.2.2.2.2.2.2.2.2 g h1
                      · have := H13.out.2.2.2.2.2.1.size; exact .inr (by omega)
                    have hk5 : Kp (d :: rowOf a0) w w3 := H14.out.2.2.2.1.trans' H15.out.2.1 (fun j hj hjl => by
                      simp only [List.mem_cons] at hj ⊢
                      rcases hj with h1 | h1
                      · exact .inl h1
                      · rcases hra2 j h1 with h2 | h2
                        · exact .inr h2
                        · omega)
                    have hk6 : Kp (d :: rowOf a0) w w4 := hk5.trans' H16.out.2 (fun j hj hjl => by
                      simp only [List.mem_singleton] at hj
                      have := H14.out.2.2.2.2.2.2.2.2.2.2.2
                      omega)
                    have hb2 : Buf w0.heap.size w2 a2 (n0 + 1 + 1) cap2 (cs0 ++ [47] ++ [m]) := H14.out.2.1.1
                    have hcR : c ∉ d :: rowOf a2 := by
                      have h1 := row_ne hb2 H14.out.2.2.2.2.2.1 (by intro cur e; cases e)
                      have := Hc.out
                      have := H14.out.2.2.2.2.2.2.2.2.2.2.1
                      simp only [List.mem_cons, not_or]
                      exact ⟨by omega, h1⟩
                    have hgsR : gs ∉ d :: rowOf a2 := by
                      obtain ⟨cur, hcur⟩ := own_heap H14.out.2.2.2.2.2.2.1
                      have h1 := row_ne hb2 hcur (by intro cur e; cases e)
                      have h2 := (H14.out.2.2.2.2.2.2.1.lt gs rfl).1
                      have := H14.out.2.2.2.2.2.2.2.2.2.2.1
                      simp only [List.mem_cons, not_or]
                      exact ⟨by omega, h1⟩
                    have hcm4 := H16.out.2.at (H15.out.2.1.at H14.out.2.2.2.2.2.1 hcR) (by have := Hc.out; simp; omega)
                    have hgp : gs ≠ p := by
                      rintro rfl
                      obtain ⟨cur, hcur⟩ := own_heap H14.out.2.2.2.2.2.2.1
                      have h2 := H14.out.1
                      unfold Ptr at h2
                      rw [hcur] at h2
                      cases h2
                    have hkr4 := H16.out.2.owns (H15.out.2.1.owns H14.out.2.2.2.2.2.2.1 (fun j hj => by cases hj; exact hgsR)) (fun j hj => by cases hj; simpa using hgp)
                    exact ⟨2, a2, cap2, key, idx, rfl, rfl, H16.out.1, hb5, H14.out.2.1.2.1, he5, H15.out.1.kept H16.out.2 (by simpa using fun e => H12.out.2.2.2.2.2.2 e.symm), hk6, hcm4, hkr4, hra2⟩
                · go_wp2_with fail
                  exact bodyPost_end (results_none rfl _ _ _) rfl ⟨rfl, H13.out.2.2.2.2.1, H13.out.2.2.2.2.2.1, H13.out.2.2.2.1.buf H13.out.2.1⟩
end Go.Proofs.YtpigmadopflfkaaGreatDoor
