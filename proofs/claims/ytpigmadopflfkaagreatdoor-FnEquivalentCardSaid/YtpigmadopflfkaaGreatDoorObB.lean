/- compareObjects for two documents of one name each, where the documents below differ in one place: the patch gets one operation. Conditions: no option was asked for. -/
import Derived.Test.YtpigmadopflfkaaGreatDoorLwE
namespace Go.Proofs.YtpigmadopflfkaaGreatDoor
open Go.RowKit Go.BigFrame

/-- The operation in block g: it replaces x at the path by y. -/
def OpAt (w : World) (g : Nat) (path : List Nat) (y x : Value) : Prop := ∃ cur n, w.heap[g]? = some (.cells cur 80) ∧ cur[0]? = some y ∧ cur[1]? = some x ∧
  cur[2]? = some (.string (txt [114, 101, 112, 108, 97, 99, 101])) ∧ cur[3]? = some (.string .empty) ∧ cur[4]? = some (.string (txt path)) ∧ cur[5]? = some (.int .i64 n)
/-- The differ's patch holds this one operation. -/
def Added (w : World) (lo d : Nat) (C : Array Value) (path : List Nat) (y x : Value) : Prop := ∃ g cap, lo ≤ g ∧ Dif w d (C.setIfInBounds 10 (.slice (some ⟨g, 0, none⟩) 1 cap)) ∧ OpAt w g path y x
theorem Added.kept {w w' : World} {lo d : Nat} {C : Array Value} {path : List Nat} {y x : Value} {S : List Nat} (h : Added w lo d C path y x) (hk : Kp S w w') (hd : d ∉ S) (hS : ∀ i ∈ S, ∀ cur, w.heap[i]? ≠ some (.cells cur 80)) : Added w' lo d C path y x := by
  obtain ⟨g, cap, h1, h2, cur, n, h3, h4⟩ := h
  exact ⟨g, cap, h1, h2.kept hk hd, cur, n, hk.at h3 (fun e => hS g e cur h3), h4⟩
theorem Added.mono {w : World} {lo lo' d : Nat} {C : Array Value} {path : List Nat} {y x : Value} (h : Added w lo d C path y x) (hl : lo' ≤ lo) : Added w lo' d C path y x := by
  obtain ⟨g, cap, h1, h2⟩ := h
  exact ⟨g, cap, by omega, h2⟩
theorem Added.cell {w : World} {lo d : Nat} {C : Array Value} {path : List Nat} {y x : Value} (h : Added w lo d C path y x) {i : Nat} (hi : i ≠ 19) (h10 : i ≠ 10) : w.cell? ⟨d, i, none⟩ = C[i]? := by
  obtain ⟨g, cap, h1, h2, h3⟩ := h
  rw [h2.cell i hi, Array.getElem?_setIfInBounds_ne (fun e => h10 e.symm)]
/-- What diff gives where the two documents differ in one number. -/
def DiffAdd (a b : J) (rest : List Nat) (y x : Value) : Prop := ∀ (d B B' : Nat) (C : Array Value) (w0 w : World) (v u : Value) (a0 : Option Addr) (n0 cap0 : Nat) (cs0 : List Nat) (key : ByteArray) (idx : Int) (pk : ByteArray) (pi sep : Int) (t : ByteArray),
  Rep B w0 a v → Rep B' w0 b u → Kp [d] w0 w → d < w0.heap.size → d < B → d < B' → Dif w d C → Opt C false → Buf w0.heap.size w a0 n0 cap0 cs0 → n0 + 2 * hgt a < 1000 → t.size < 1000000 →
  Calls Tryz.prog 52 #[.pointer (some ⟨d, 0, none⟩), .agg #[.slice a0 n0 cap0, .string key, .int .i64 idx, .string pk, .int .i64 pi, .int .i64 sep], v, u, .string t] w fun e w' => e = .returned (.tuple #[]) ∧
    Added w' w.heap.size d C (cs0 ++ rest) y x ∧ Kp (d :: rowOf a0) w w' ∧ Buf w0.heap.size w' a0 n0 cap0 cs0
theorem sort_key {k : Nat} {w : World} {B cap : Nat} {sa : Option Addr} (h : w.ownsRow B 9 1 (.slice sa 1 cap) 1 [.string (txt [k])]) :
    Calls Tryz.prog 113 #[.slice sa 1 cap] w fun e w' => e = .returned (.tuple #[]) ∧ ∃ n, w' = w.drewN n := by
  refine sort_of (by omega) ?_
  obtain ⟨g, rfl, hg1, hg2, hcs⟩ := own_cells h (by omega)
  exact isort_one g cap w

set_option maxRecDepth 100000 in
set_option maxHeartbeats 8000000 in
theorem objects_one (k : Nat) (hk : keyOk k) (A1 A2 : J) (rest : List Nat) (y x : Value) (ihA : DiffAdd A1 A2 rest y x) (d B B' r1 r2 : Nat) (C : Array Value) (va vc : Value) (n0 cap0 : Nat) (a0 : Option Addr) (cs0 : List Nat) (key : ByteArray) (idx : Int) (pk : ByteArray) (pi sep : Int) (t : ByteArray) (w0 w : World)
    (hr1 : w0.heap[r1]? = some (.map #[ent k va 0] 1)) (hr2 : w0.heap[r2]? = some (.map #[ent k vc 0] 1)) (hB1 : B ≤ r1) (hB2 : B' ≤ r2) (ha1 : Rep B w0 A1 va) (ha2 : Rep B' w0 A2 vc) (ht : t.size < 1000000)
    (hk0 : Kp [d] w0 w) (hdB : d < B) (hdB' : d < B') (hd : Dif w d C) (hC : Opt C false) (hbuf : Buf w0.heap.size w a0 n0 cap0 cs0) (hnA : n0 + 2 * hgt A1 + 2 < 1000) :
    Calls Tryz.prog 79 #[.pointer (some ⟨d, 0, none⟩), .agg #[.slice a0 n0 cap0, .string key, .int .i64 idx, .string pk, .int .i64 pi, .int .i64 sep], .map (some r1), .map (some r2), .string t] w fun e w' => e = .returned (.tuple #[]) ∧
      Added w' w.heap.size d C (cs0 ++ ([47, k] ++ rest)) y x ∧ Kp (d :: rowOf a0) w w' ∧ Buf w0.heap.size w' a0 n0 cap0 cs0 := by
  have h1 := hk0.at hr1 (by simp; omega)
  have h2 := hk0.at hr2 (by simp; omega)
  have HX := Hid.mk (And.intro hk0 (And.intro hd (And.intro hC (And.intro hbuf (And.intro ha1 (And.intro ha2 ht))))))
  have HB := Hid.mk (And.intro hdB (And.intro hdB' (And.intro hnA (And.intro hB1 hB2))))
  have HR := Hid.mk (And.intro hr1 hr2)
  clear hr1 hr2 hB1 hB2 ha1 ha2 hk0 hdB hdB' hd hC hbuf hnA ht
  have H := Hid.mk (And.intro h1 h2)
  have HK := Hid.mk hk
  have l1 : ∀ o, (Builtin.len_ #[121] 3 #[Value.map (some r1)]).run Tryz.prog (w.alloc o) = .ok (.int .i64 1) (w.alloc o) := fun o => len_map Tryz.underlying121 (((Kp.refl [] w).alloc o).at h1 (by simp)) 1 rfl
  have l2 : ∀ o, (Builtin.len_ #[121] 3 #[Value.map (some r2)]).run Tryz.prog (w.alloc o) = .ok (.int .i64 1) (w.alloc o) := fun o => len_map Tryz.underlying121 (((Kp.refl [] w).alloc o).at h2 (by simp)) 1 rfl
  have hmk := make_run Tryz.underlying179
  clear hk h1 h2
  go_enter Tryz.func79, Tryz.ntmps79
  go_upto_region 2 with (fail)
  clear l1 l2 hmk
  obtain ⟨c, hc⟩ : ∃ c, c = w.heap.size + 1 := ⟨_, rfl⟩
  obtain ⟨p, hp⟩ : ∃ p, p = w.heap.size := ⟨_, rfl⟩
  obtain ⟨w1, hw1⟩ : ∃ w1, w1 = (w.alloc (.cells #[.slice a0 n0 cap0, .string key, .int .i64 idx, .string pk, .int .i64 pi, .int .i64 sep] 64)).alloc (.map #[] 0) := ⟨_, rfl⟩
  rw [← hw1, ← hc, ← hp]
  have hk1 : Kp [] w w1 := by rw [hw1]; exact ((Kp.refl _ _).alloc _).alloc _
  have hs1 : w1.heap.size = w.heap.size + 2 := by rw [hw1]; simp
  have hp1 : Ptr w1 p a0 n0 cap0 key idx pk pi sep := by
    rw [hw1, hp]
    exact (heap_alloc_lt (by simp) _).trans (heap_alloc_same _ _)
  have hcm1 : w1.heap[c]? = some (.map #[] 0) := by
    rw [hw1, hc]
    have := heap_alloc_same (w.alloc (.cells #[.slice a0 n0 cap0, .string key, .int .i64 idx, .string pk, .int .i64 pi, .int .i64 sep] 64)) (.map #[] 0)
    simpa using this
  have hrg := range_run Tryz.underlying121 (hk1.at H.out.1 (by simp))
  have H1 := Hid.mk (And.intro hk1 (And.intro hp1 hcm1))
  have Hc := Hid.mk (And.intro hc (And.intro hp hs1))
  clear hw1 hk1 hp1 hcm1 hc hp hs1
  go_wp2_with fail
  clear hrg
  obtain ⟨it, hitd⟩ : ∃ it, it = w1.heap.size := ⟨_, rfl⟩
  obtain ⟨w2, hw2⟩ : ∃ w2, w2 = w1.alloc (.mapIter (some r1) 1 #[] 1) := ⟨_, rfl⟩
  rw [← hw2, ← hitd]
  have hk1 : Kp [] w w2 := by rw [hw2]; exact H1.out.1.alloc _
  have hit1 : w2.heap[it]? = some (.mapIter (some r1) 1 #[] 1) := by rw [hw2, hitd]; exact heap_alloc_same _ _
  have hcm1 : w2.heap[c]? = some (.map #[] 0) := by rw [hw2]; exact ((Kp.refl [] _).alloc _).at H1.out.2.2 (by simp)
  have hp1 : Ptr w2 p a0 n0 cap0 key idx pk pi sep := by rw [hw2]; exact ((Kp.refl [] _).alloc _).at H1.out.2.1 (by simp)
  have Hit := Hid.mk (show it = w.heap.size + 2 by rw [hitd]; exact Hc.out.2.2)
  clear hw2 hitd H1
  have hb01 : bits BinOp.or IntKind.u8 0 1 = 1 := by kernel_rfl
  go_loopg [] 1 (fun f wr => Kp [] w wr ∧ Ptr wr p a0 n0 cap0 key idx pk pi sep ∧ ((f = 1 ∧ wr.heap[it]? = some (.mapIter (some r1) 1 #[] 1) ∧ wr.heap[c]? = some (.map #[] 0)) ∨
    (f = 0 ∧ wr.heap[it]? = some (.mapIter (some r1) 1 #[0] 1) ∧ wr.heap[c]? = some (.map #[en8 k 1 0] 1))))
  case atStart => exact ⟨hk1, hp1, .inl ⟨rfl, hit1, hcm1⟩⟩
  case round =>
    clear hk1 hp1 hit1 hcm1
    obtain ⟨hkp, hpr, ⟨rfl, hit, hcm⟩ | ⟨rfl, hit, hcm⟩⟩ := hrel
    · obtain ⟨i, hi, w2, hnext, hit2, hk2⟩ := next_more (T := 0) hit (hkp.at H.out.1 (by simp)) (by simp) #[ent k va 0] (by simp) (by simp) (by simp) (by simp)
      obtain rfl : i = 0 := by simp at hi; omega
      have hk2' : Kp [] w w2 := hkp.trans' hk2 (fun j hj hjl => by have := Hit.out; simp at hj; omega)
      have hcm2 := hk2.at hcm (by have := Hit.out; have := Hc.out; simp; omega)
      have hent := entry_run (b := 0) (e := ent k va 0) hit2 (hk2'.at H.out.1 (by simp)) (by simp)
      have hlk := lookup_none (T := 179) (k := txt [k]) (z := .int .u8 0) false Tryz.underlying179 (zero_run w2 5 _ info5z) hcm2 (by simp [Instr.findNow])
      obtain ⟨w3, hput, hcm3, hk3⟩ := mput_run Tryz.underlying179 (k := txt [k]) (.int .u8 1) hcm2 (by simp [Instr.findNow])
      have hk3' : Kp [] w w3 := hk2'.trans' hk3 (fun j hj hjl => by have := Hc.out; simp at hj; omega)
      have hit3 := hk3.at hit2 (by have := Hit.out; have := Hc.out; simp; omega)
      have hpr3 : Ptr w3 p a0 n0 cap0 key idx pk pi sep := hk3.at (hk2.at hpr (by have := Hit.out; have := Hc.out; simp; omega)) (by have := Hc.out; simp; omega)
      have H3 := Hid.mk (And.intro hk3' (And.intro hit3 (And.intro hcm3 hpr3)))
      clear hk2' hk2 hit2 hcm2 hk3' hit3 hcm3 hk3 hkp hit hcm hpr hpr3
      go_wp2_with fail
      go_roundg 0
      case measure => omega
      case rel => exact ⟨H3.out.1, H3.out.2.2.2, .inr ⟨rfl, H3.out.2.1, H3.out.2.2.1⟩⟩
    · have hnext : (Instr.next (.pointer (some ⟨it, 0, none⟩)) false 0).run Tryz.prog wr = .ok (.tuple #[.bool false]) wr := next_over (T := 0) hit (hkp.at H.out.1 (by simp)) (by simp) (by simp)
      have H5 := Hid.mk (And.intro hkp (And.intro hpr hcm))
      clear hit hkp hpr hcm
      go_upto_region 6 with (fail)
      have hrg := range_run Tryz.underlying121 (H5.out.1.at H.out.2 (by simp))
      go_wp2_with fail
      clear hrg hnext
      obtain ⟨it2, hitd⟩ : ∃ it2, it2 = wr.heap.size := ⟨_, rfl⟩
      obtain ⟨w5, hw5⟩ : ∃ w5, w5 = wr.alloc (.mapIter (some r2) 1 #[] 1) := ⟨_, rfl⟩
      rw [← hw5, ← hitd]
      have hk5 : Kp [] w w5 := by rw [hw5]; exact H5.out.1.alloc _
      have hit5 : w5.heap[it2]? = some (.mapIter (some r2) 1 #[] 1) := by rw [hw5, hitd]; exact heap_alloc_same _ _
      have hcm5 : w5.heap[c]? = some (.map #[en8 k 1 0] 1) := by rw [hw5]; exact ((Kp.refl [] _).alloc _).at H5.out.2.2 (by simp)
      have hp5 : Ptr w5 p a0 n0 cap0 key idx pk pi sep := by rw [hw5]; exact ((Kp.refl [] _).alloc _).at H5.out.2.1 (by simp)
      have Hit2 := Hid.mk (show w.heap.size ≤ it2 ∧ c < it2 ∧ p < it2 by
        have h1 := lt_of_heap H5.out.2.2
        have h2 := lt_of_heap H5.out.2.1
        have h3 := H5.out.1.size
        omega)
      have hb12 : bits BinOp.or IntKind.u8 1 2 = 3 := by kernel_rfl
      clear hw5 hitd H5 hb01
      go_loopg [] 1 (fun f wr => Kp [] w wr ∧ Ptr wr p a0 n0 cap0 key idx pk pi sep ∧ ((f = 1 ∧ wr.heap[it2]? = some (.mapIter (some r2) 1 #[] 1) ∧ wr.heap[c]? = some (.map #[en8 k 1 0] 1)) ∨
        (f = 0 ∧ wr.heap[it2]? = some (.mapIter (some r2) 1 #[0] 1) ∧ wr.heap[c]? = some (.map #[en8 k 3 0] 1))))
      case atStart => exact ⟨hk5, hp5, .inl ⟨rfl, hit5, hcm5⟩⟩
      case round =>
        clear hk5 hp5 hit5 hcm5
        obtain ⟨hkp, hpr, ⟨rfl, hit, hcm⟩ | ⟨rfl, hit, hcm⟩⟩ := hrel
        · obtain ⟨i, hi, w2, hnext, hit2, hk2⟩ := next_more (T := 0) hit (hkp.at H.out.2 (by simp)) (by simp) #[ent k vc 0] (by simp) (by simp) (by simp) (by simp)
          obtain rfl : i = 0 := by simp at hi; omega
          have hk2' : Kp [] w w2 := hkp.trans' hk2 (fun j hj hjl => by have := Hit2.out; simp at hj; omega)
          have hcm2 := hk2.at hcm (by have := Hit2.out; have := Hc.out; simp; omega)
          have hent := entry_run (b := 0) (e := ent k vc 0) hit2 (hk2'.at H.out.2 (by simp)) (by simp)
          have hlk := lookup_run (T := 179) (k := txt [k]) (i := 0) (v := .int .u8 1) false Tryz.underlying179 hcm2 (by simp [Instr.findNow, Instr.sameNow, txt_self])
          obtain ⟨w3, hput, hcm3, hk3⟩ := mset_run Tryz.underlying179 (k := txt [k]) (i := 0) (v0 := .int .u8 1) (b := 0) (.int .u8 3) hcm2 (by simp [Instr.findNow, Instr.sameNow, txt_self]) rfl
          replace hcm3 : w3.heap[c]? = some (.map #[en8 k 3 0] 1) := by simpa using hcm3
          have hk3' : Kp [] w w3 := hk2'.trans' hk3 (fun j hj hjl => by have := Hc.out; simp at hj; omega)
          have hit3 := hk3.at hit2 (by have := Hit2.out; have := Hc.out; simp; omega)
          have hpr3 : Ptr w3 p a0 n0 cap0 key idx pk pi sep := hk3.at (hk2.at hpr (by have := Hit2.out; have := Hc.out; simp; omega)) (by have := Hc.out; simp; omega)
          have H3 := Hid.mk (And.intro hk3' (And.intro hit3 (And.intro hcm3 hpr3)))
          clear hk2' hk2 hit2 hcm2 hk3' hit3 hcm3 hk3 hkp hit hcm hpr hpr3
          go_wp2_with fail
          go_roundg 0
          case measure => omega
          case rel => exact ⟨H3.out.1, H3.out.2.2.2, .inr ⟨rfl, H3.out.2.1, H3.out.2.2.1⟩⟩
        · have hnext : (Instr.next (.pointer (some ⟨it2, 0, none⟩)) false 0).run Tryz.prog wr = .ok (.tuple #[.bool false]) wr := next_over (T := 0) hit (hkp.at H.out.2 (by simp)) (by simp) (by simp)
          have H5 := Hid.mk (And.intro hkp (And.intro hpr hcm))
          clear hit hkp hpr hcm hb12
          go_upto_region 10 with (fail)
          have l3 := len_map Tryz.underlying179 H5.out.2.2 1 rfl
          have hms := make1_run wr
          go_upto_region 11 with (fail)
          clear l3 hms hnext
          obtain ⟨w6, hw6⟩ : ∃ w6, w6 = wr.alloc (.cells #[.string .empty] 9) := ⟨_, rfl⟩
          obtain ⟨g6, hg6⟩ : ∃ g6, g6 = wr.heap.size := ⟨_, rfl⟩
          rw [← hw6, ← hg6]
          have hk6 : Kp [] wr w6 := by rw [hw6]; exact (Kp.refl _ _).alloc _
          have hcm6 := hk6.at H5.out.2.2 (by simp)
          have hown6 : w6.ownsRow w.heap.size 9 1 (.slice (some ⟨g6, 0, none⟩) 0 1) 0 [] := by
            refine ⟨rfl, .inr ⟨g6, 1, #[.string .empty], rfl, ?_, ?_, by omega, by decide, rfl, rfl⟩⟩
            · rw [hg6]; exact H5.out.1.size
            · rw [hw6, hg6]; exact heap_alloc_same _ _
          have hgc : c < g6 ∧ p < g6 := by rw [hg6]; exact ⟨lt_of_heap H5.out.2.2, lt_of_heap H5.out.2.1⟩
          have hg7 : g6 < w6.heap.size := by rw [hg6, hw6]; simp
          have hrg := range_run Tryz.underlying179 hcm6
          have H6 := Hid.mk (And.intro (H5.out.1.trans hk6) (And.intro (hk6.at H5.out.2.1 (by simp)) (And.intro hcm6 (And.intro hown6 (And.intro hgc hg7)))))
          clear hw6 hg6 hk6 hcm6 hown6 hgc H5 hg7
          go_wp2_with fail
          clear hrg
          obtain ⟨it3, hitd⟩ : ∃ it3, it3 = w6.heap.size := ⟨_, rfl⟩
          obtain ⟨w7, hw7⟩ : ∃ w7, w7 = w6.alloc (.mapIter (some c) 1 #[] 1) := ⟨_, rfl⟩
          rw [← hw7, ← hitd]
          have hk67 : Kp [] w6 w7 := by rw [hw7]; exact (Kp.refl _ _).alloc _
          have hit7 : w7.heap[it3]? = some (.mapIter (some c) 1 #[] 1) := by rw [hw7, hitd]; exact heap_alloc_same _ _
          have H7 := Hid.mk (And.intro (H6.out.1.trans hk67) (And.intro (hk67.at H6.out.2.1 (by simp)) (And.intro (hk67.at H6.out.2.2.1 (by simp)) (And.intro (hk67.owns H6.out.2.2.2.1 (by simp)) hit7))))
          have Hit3 := Hid.mk (show w.heap.size ≤ it3 ∧ c < it3 ∧ p < it3 by
            have := H6.out.2.2.2.2
            have := H6.out.1.size
            omega)
          clear hw7 hitd hk67 hit7 H6
          go_loopg [13] 1 (fun f sv wr => Kp [] w wr ∧ Ptr wr p a0 n0 cap0 key idx pk pi sep ∧ wr.heap[c]? = some (.map #[en8 k 3 0] 1) ∧ ∃ sa n scap xs, sv = .slice sa n scap ∧ wr.ownsRow w.heap.size 9 1 (.slice sa n scap) n xs ∧
            ((f = 1 ∧ wr.heap[it3]? = some (.mapIter (some c) 1 #[] 1) ∧ n = 0 ∧ xs = []) ∨
            (f = 0 ∧ wr.heap[it3]? = some (.mapIter (some c) 1 #[0] 1) ∧ n = 1 ∧ xs = [.string (txt [k])])))
          case atStart => exact ⟨H7.out.1, H7.out.2.1, H7.out.2.2.1, some ⟨g6, 0, none⟩, 0, 1, [], rfl, H7.out.2.2.2.1, .inl ⟨rfl, H7.out.2.2.2.2, rfl, rfl⟩⟩
          case round =>
            clear H7
            obtain ⟨hkp, hpr, hcm, sa, n, scap, xs, rfl, hown, ⟨rfl, hit, rfl, rfl⟩ | ⟨rfl, hit, rfl, rfl⟩⟩ := hrel
            · obtain ⟨i, hi, w2, hnext, hit2, hk2⟩ := next_more (T := 0) hit hcm (by simp) #[en8 k 3 0] (by simp) (by simp) (by simp) (by simp)
              obtain rfl : i = 0 := by simp at hi; omega
              have hk2' : Kp [] w w2 := hkp.trans' hk2 (fun j hj hjl => by have := Hit3.out; simp at hj; omega)
              have hcm2 := hk2.at hcm (by have := Hit3.out; simp; omega)
              have hpr2 : Ptr w2 p a0 n0 cap0 key idx pk pi sep := hk2.at hpr (by have := Hit3.out; simp; omega)
              have hown2 := hk2.owns hown (fun j hj e => own_ne9 hown hit (by intro cur e; cases e) (by simp at e; rw [← e]; exact hj))
              have hent := entry_run (b := 0) (e := en8 k 3 0) hit2 hcm2 (by simp)
              have H8 := Hid.mk (And.intro hk2' (And.intro hcm2 (And.intro hpr2 (And.intro hown2 hit2))))
              clear hk2' hcm2 hpr2 hown2 hit2 hk2 hkp hpr hcm hown hit
              go_wp2_with (at_builtin; refine wpList_appStr rfl _ _ rfl w.heap.size sa 0 scap _ rfl (H8.out.2.2.2.1.alloc _) w2.heap.size 1 (txt [k]) rfl (by simp) (by omega) (by have := H8.out.1.size; simp; omega) ?_; intro a2 c2 w9 hown9 hgr9; have H9 := Hid.mk (And.intro hown9 hgr9); clear hown9 hgr9)
              go_roundg 0
              case measure => omega
              case rel =>
                have hit9 := app_at H9.out.2 H8.out.2.2.2.2 (own_ne9 H8.out.2.2.2.1 H8.out.2.2.2.2 (by intro cur e; cases e))
                have hcm9 := app_at H9.out.2 H8.out.2.1 (own_ne9 H8.out.2.2.2.1 H8.out.2.1 (by intro cur e; cases e))
                have hpr9 : Ptr w9 p a0 n0 cap0 key idx pk pi sep := app_at H9.out.2 H8.out.2.2.1 (own_ne9 H8.out.2.2.2.1 H8.out.2.2.1 (by intro cur e; cases e))
                have hk9 : Kp [] w w9 := (H8.out.1.alloc _).grown H9.out.2 (fun j hj => .inr (H8.out.2.2.2.1.lt j hj).1)
                exact ⟨hk9, hpr9, hcm9, a2, _, c2, _, rfl, H9.out.1, .inr ⟨rfl, hit9, rfl, rfl⟩⟩
            · have hnext : (Instr.next (.pointer (some ⟨it3, 0, none⟩)) false 0).run Tryz.prog wr = .ok (.tuple #[.bool false]) wr := next_over (T := 0) hit hcm (by simp) (by simp)
              have H9 := Hid.mk (And.intro hkp (And.intro hpr (And.intro hcm hown)))
              clear hit hkp hpr hcm hown
              go_wp2_with fail
              refine (sort_key H9.out.2.2.2).mono ?_
              rintro e w9 ⟨rfl, nd, rfl⟩
              have H10 := Hid.mk (And.intro (H9.out.1.drewN nd) (And.intro (show Ptr (wr.drewN nd) p a0 n0 cap0 key idx pk pi sep from H9.out.2.1) (And.intro (show (wr.drewN nd).heap[c]? = _ from H9.out.2.2.1) (show (wr.drewN nd).ownsRow w.heap.size 9 1 (.slice sa 1 scap) 1 [.string (txt [k])] from H9.out.2.2.2))))
              generalize wr.drewN nd = w9 at H10
              clear hnext
              go_wp2_with fail
              refine (snapshot_any p n0 cap0 a0 key idx pk pi sep _ H10.out.2.1).mono ?_
              rintro e w10 ⟨rfl, hp10, hk10⟩
              have H11 := Hid.mk (And.intro hp10 hk10)
              clear hp10 hk10
              go_wp2_with fail
              have hk011 : Kp [] w w10 := H10.out.1.trans' H11.out.2 (fun j hj hjl => by have := Hc.out; simp at hj; omega)
              have hd11 : d < w.heap.size := HX.out.2.1.lt
              have hpd : p ≠ d := by have := Hc.out; omega
              have hc11 := H11.out.2.at H10.out.2.2.1 (by have := Hc.out; simp; omega)
              have hkr11 := H11.out.2.owns H10.out.2.2.2 (fun j hj e => by simp at e; subst e; exact own_ne9 H10.out.2.2.2 H10.out.2.1 (by intro cur e; cases e) hj)
              have hb11 : Buf w0.heap.size w10 a0 n0 cap0 cs0 := hk011.owns HX.out.2.2.2.1 (by simp)
              have hpa0 : p ∉ rowOf a0 := fun h => by have := (rowOf_mem HX.out.2.2.2.1 p h).2; have := Hc.out; omega
              have hda0 : d ∉ rowOf a0 := fun h => by
                have h1 := (rowOf_mem HX.out.2.2.2.1 d h).1
                have h2 := lt_of_heap HR.out.1
                have h3 := HB.out
                omega
              have H12 := Hid.mk (And.intro hk011 (And.intro hc11 (And.intro hkr11 (And.intro hb11 (And.intro hpa0 (And.intro hda0 hpd))))))
              clear hk011 hd11 hpd hc11 hkr11 hb11 hpa0 hda0
              go_loopg [64] 1 (fun f vi wr => (f = 1 ∧ vi = .int .i64 0 ∧ w10 = wr) ∨ (f = 0 ∧ vi = .int .i64 1 ∧ Added wr w.heap.size d C (cs0 ++ ([47, k] ++ rest)) y x ∧ Kp (d :: rowOf a0) w wr ∧ Buf w0.heap.size wr a0 n0 cap0 cs0))
              case atStart => exact .inl ⟨rfl, rfl, rfl⟩
              case round =>
                obtain ⟨rfl, rfl, rfl⟩ | ⟨rfl, rfl, hadd, hkf, hbf⟩ := hrel
                · obtain ⟨gs, rfl, hg1, hg2, hcs⟩ := own_cells H12.out.2.2.1 (by omega)
                  have hcell : w10.cell? ⟨gs, 0, none⟩ = some (.string (txt [k])) := hcs 0 (by omega)
                  have hlk : (Instr.lookup 179 (.map (some c)) (.string (txt [k])) false).run Tryz.prog w10 = .ok (.int .u8 3) w10 :=
                    lookup_run (i := 0) false Tryz.underlying179 H12.out.2.1 (by simp [Instr.findNow, Instr.sameNow, txt_self])
                  have hb31 : bits BinOp.and IntKind.u8 3 1 = 1 := by kernel_rfl
                  have hb32 : bits BinOp.and IntKind.u8 3 2 = 2 := by kernel_rfl
                  clear hcs hg1 hg2
                  go_wp2_with fail
                  have hw00 : w0.heap.size ≤ w10.heap.size := Nat.le_trans HX.out.1.size H12.out.1.size
                  have hdl : d < w0.heap.size := by have h2 := lt_of_heap HR.out.1; have h3 := HB.out; omega
                  have hdw : d < w.heap.size := HX.out.2.1.lt
                  have hpw : w.heap.size ≤ p := by have := Hc.out; omega
                  refine (appendKey_any w0.heap.size p k n0 cap0 a0 cs0 key idx key idx n0 w10 HK.out H11.out.1 H12.out.2.2.2.1 H12.out.2.2.2.2.1 hw00 (by have := HB.out; omega)).mono ?_
                  rintro e w2 ⟨rfl, a2, cap2, hp2, hy2⟩
                  have hda2 : d ∉ rowOf a2 := fun h => by
                    rcases hy2.2.2.2.1 d h with h1 | h1
                    · exact H12.out.2.2.2.2.2.1 h1
                    · have := H12.out.1.size; omega
                  have hd2 : Dif w2 d C := (HX.out.2.1.kept H12.out.1 (by simp)).kept hy2.2.2.1 (by simp; exact ⟨fun e => H12.out.2.2.2.2.2.2 e.symm, H12.out.2.2.2.2.2.1⟩)
                  have hkw2 : Kp (d :: rowOf a0) w w2 := (H12.out.1.mono (T := d :: rowOf a0) (by simp)).trans' hy2.2.2.1 (fun j hj hjl => by
                    simp only [List.mem_cons] at hj ⊢
                    rcases hj with h1 | h1
                    · omega
                    · exact .inr h1)
                  have hk02 : Kp [d] w0 w2 := HX.out.1.trans' hkw2 (fun j hj hjl => by
                    simp only [List.mem_cons] at hj ⊢
                    rcases hj with h1 | h1
                    · exact .inl h1
                    · have := (rowOf_mem HX.out.2.2.2.1 j h1).1; omega)
                  have hl1 := lookup_run (T := 121) (k := txt [k]) (i := 0) (v := va) false Tryz.underlying121 (hk02.at HR.out.1 (by have := HB.out; simp; omega)) (by simp [Instr.findNow, Instr.sameNow, txt_self])
                  have hl2 := lookup_run (T := 121) (k := txt [k]) (i := 0) (v := vc) false Tryz.underlying121 (hk02.at HR.out.2 (by have := HB.out; simp; omega)) (by simp [Instr.findNow, Instr.sameNow, txt_self])
                  have hc6 := (hd2.cell 6 (by decide)).trans HX.out.2.2.1.c6
                  have hcp2 := blk_cell hp2
                  have H14 := Hid.mk (And.intro hp2 (And.intro hy2 (And.intro hd2 (And.intro hkw2 (And.intro hk02 (And.intro hda2 (And.intro hw00 (And.intro hdl (And.intro hdw hpw)))))))))
                  clear hp2 hy2 hd2 hkw2 hk02 hda2 hw00 hdl hdw hpw
                  go_wp2_with fail
                  refine (ihA d B B' C w0 w2 va vc a2 (n0 + 1 + 1) cap2 (cs0 ++ [47] ++ [k]) (txt [k]) 0 key idx n0 t HX.out.2.2.2.2.1 HX.out.2.2.2.2.2.1 H14.out.2.2.2.2.1 H14.out.2.2.2.2.2.2.2.1 HB.out.1 HB.out.2.1 H14.out.2.2.1 HX.out.2.2.1 H14.out.2.1.1 (by have := HB.out; omega) HX.out.2.2.2.2.2.2).mono ?_
                  rintro e w3 ⟨rfl, hd3, hk3, hb3⟩
                  have hpR : p ∉ d :: rowOf a2 := by
                    simp only [List.mem_cons, not_or]
                    exact ⟨H12.out.2.2.2.2.2.2, H14.out.2.1.2.1⟩
                  have hp3 := hk3.at H14.out.1 hpR
                  have H15 := Hid.mk (And.intro hd3 (And.intro hk3 (And.intro hb3 (And.intro hpR hp3))))
                  clear hd3 hk3 hb3 hpR hp3
                  go_wp2_with fail
                  refine (rewind_any p (n0 + 1 + 1) cap2 n0 a2 (txt [k]) 0 key idx w3 H15.out.2.2.2.2 (by omega) (own_cap H15.out.2.2.1).1).mono ?_
                  rintro e w4 ⟨rfl, hp4, hk4⟩
                  have H16 := Hid.mk (And.intro hp4 hk4)
                  clear hp4 hk4
                  go_wp2_with fail
                  go_roundg 0
                  case measure => omega
                  case rel =>
                    have hn0 : cs0.length = n0 := by have := HX.out.2.2.2.1.1; simpa using this
                    have htk : (cs0 ++ [47] ++ [k]).take n0 = cs0 := by
                      rw [List.append_assoc, List.take_append_of_le_length (by omega), List.take_of_length_le (by omega)]
                    have hb4 := H16.out.2.owns H15.out.2.2.1 (fun j hj e => by
                      simp only [List.mem_singleton] at e
                      subst e
                      exact H14.out.2.1.2.1 (own_row hj))
                    have he2 := H14.out.2.1.2.2.2.2 a0 n0 cap0 cs0 H12.out.2.2.2.2.1 (Elder.refl H12.out.2.2.2.1)
                    have he3 := he2.kept H15.out.2.1 (fun g hg => by
                      simp only [List.mem_cons] at hg
                      rcases hg with h1 | h1
                      · have := H14.out.2.2.2.2.2.2.2.1; exact .inr (.inl (by omega))
                      · exact .inl h1)
                    have he4 := he3.kept H16.out.2 (fun g hg => by simp only [List.mem_singleton] at hg; subst hg; exact .inr (.inr (.inr H12.out.2.2.2.2.1)))
                    have hk5 : Kp (d :: rowOf a0) w w3 := H14.out.2.2.2.1.trans' H15.out.2.1 (fun j hj hjl => by
                      simp only [List.mem_cons] at hj ⊢
                      rcases hj with h1 | h1
                      · exact .inl h1
                      · rcases H14.out.2.1.2.2.2.1 j h1 with h2 | h2
                        · exact .inr h2
                        · have := H12.out.1.size; omega)
                    have hk6 : Kp (d :: rowOf a0) w w4 := hk5.trans' H16.out.2 (fun j hj hjl => by
                      simp only [List.mem_singleton] at hj
                      have := H14.out.2.2.2.2.2.2.2.2.2
                      omega)
                    refine .inr ⟨rfl, rfl, ?_, hk6, he4.buf hb4⟩
                    have h9 := (H15.out.1.kept H16.out.2 (by simpa using fun e => H12.out.2.2.2.2.2.2 e.symm) (fun i hi cur e => by
                      simp only [List.mem_singleton] at hi
                      subst hi
                      have h1 := H15.out.2.2.2.2
                      rw [e] at h1
                      cases h1)).mono (lo' := w.heap.size) (Nat.le_trans H12.out.1.size H14.out.2.1.2.2.1.size)
                    have e1 : cs0 ++ [47] ++ [k] ++ rest = cs0 ++ ([47, k] ++ rest) := by simp
                    rwa [e1] at h9
                · have Hf := Hid.mk (And.intro hadd (And.intro hkf hbf))
                  clear hadd hkf hbf
                  go_wp2_with fail
                  exact bodyPost_end (results_none rfl _ _ _) rfl ⟨rfl, Hf.out.1, Hf.out.2.1, Hf.out.2.2⟩
end Go.Proofs.YtpigmadopflfkaaGreatDoor
