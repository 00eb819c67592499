/- The kinds of values, deepEqual of numbers and lists, ranges over maps. Condition: the values are plain documents. -/
import Derived.Test.YtpigmadopflfkaaGreatDoorRdG
namespace Go.Proofs.YtpigmadopflfkaaGreatDoor
open Go.RowKit Go.BigFrame

section
variable (v : Value) (w : World)
theorem ta_yes (T : TypeId) (d : TypeDesc) (hd : Tryz.prog.underlying T = some d) (hi : ∀ m, d ≠ .interface m) (ok : Bool) : (Instr.typeAssert (.iface T v) 20 T ok).run Tryz.prog w = .ok (if ok then .tuple #[v, .bool true] else v) w := by
  cases d <;> first | (exact absurd rfl (hi _)) | (cases ok <;> simp [Instr.typeAssert, run_underlying hd, Result.andThen])
theorem ta_no (t T : TypeId) (d : TypeDesc) (hd : Tryz.prog.underlying T = some d) (hi : ∀ m, d ≠ .interface m) (ht : (t = T) = False) (z : Value) (hz : (zeroValue T).run Tryz.prog w = .ok z w) : (Instr.typeAssert (.iface t v) 20 T true).run Tryz.prog w = .ok (.tuple #[z, .bool false]) w := by
  cases d <;> first | (exact absurd rfl (hi _)) | (simp [Instr.typeAssert, run_underlying hd, Result.andThen, ht, hz])
theorem zero_run (T : TypeId) (z : Value) (h : (Tryz.prog.info? T).map (fun i => i.zero) = some (some z)) : (zeroValue T).run Tryz.prog w = .ok z w := by
  cases hi : Tryz.prog.info? T with
  | none => rw [hi] at h; cases h
  | some i =>
    rw [hi] at h
    simp at h
    simp [zeroValue, typeInfo, hi, h, Result.andThen]
theorem info9 : (Tryz.prog.info? 9).map (fun i => i.zero) = some (some (.string .empty)) := by kernel_rfl
theorem info4 : (Tryz.prog.info? 4).map (fun i => i.zero) = some (some (.bool false)) := by kernel_rfl
theorem info87 : (Tryz.prog.info? 87).map (fun i => i.zero) = some (some (.float .f64 0)) := by kernel_rfl
theorem info119 : (Tryz.prog.info? 119).map (fun i => i.zero) = some (some (.slice none 0 0)) := by kernel_rfl
theorem info121 : (Tryz.prog.info? 121).map (fun i => i.zero) = some (some (.map none)) := by kernel_rfl
theorem ta_no9 (t : TypeId) (ht : (t = 9) = False) : (Instr.typeAssert (.iface t v) 20 9 true).run Tryz.prog w = .ok (.tuple #[.string .empty, .bool false]) w :=
  ta_no v w t 9 _ Tryz.underlying9 (fun m e => by cases e) ht _ (zero_run w _ _ info9)
theorem ta_no4 (t : TypeId) (ht : (t = 4) = False) : (Instr.typeAssert (.iface t v) 20 4 true).run Tryz.prog w = .ok (.tuple #[.bool false, .bool false]) w :=
  ta_no v w t 4 _ Tryz.underlying4 (fun m e => by cases e) ht _ (zero_run w _ _ info4)
theorem ta_no87 (t : TypeId) (ht : (t = 87) = False) : (Instr.typeAssert (.iface t v) 20 87 true).run Tryz.prog w = .ok (.tuple #[.float .f64 0, .bool false]) w :=
  ta_no v w t 87 _ Tryz.underlying87 (fun m e => by cases e) ht _ (zero_run w _ _ info87)
theorem ta_no119 (t : TypeId) (ht : (t = 119) = False) : (Instr.typeAssert (.iface t v) 20 119 true).run Tryz.prog w = .ok (.tuple #[.slice none 0 0, .bool false]) w :=
  ta_no v w t 119 _ Tryz.underlying119 (fun m e => by cases e) ht _ (zero_run w _ _ info119)
theorem ta_no121 (t : TypeId) (ht : (t = 121) = False) : (Instr.typeAssert (.iface t v) 20 121 true).run Tryz.prog w = .ok (.tuple #[.map none, .bool false]) w :=
  ta_no v w t 121 _ Tryz.underlying121 (fun m e => by cases e) ht _ (zero_run w _ _ info121)
theorem ta_yes87 (ok : Bool) : (Instr.typeAssert (.iface 87 v) 20 87 ok).run Tryz.prog w = .ok (if ok then .tuple #[v, .bool true] else v) w := ta_yes v w 87 _ Tryz.underlying87 (fun m e => by cases e) ok
theorem ta_yes119 (ok : Bool) : (Instr.typeAssert (.iface 119 v) 20 119 ok).run Tryz.prog w = .ok (if ok then .tuple #[v, .bool true] else v) w := ta_yes v w 119 _ Tryz.underlying119 (fun m e => by cases e) ok
theorem ta_yes121 (ok : Bool) : (Instr.typeAssert (.iface 121 v) 20 121 ok).run Tryz.prog w = .ok (if ok then .tuple #[v, .bool true] else v) w := ta_yes v w 121 _ Tryz.underlying121 (fun m e => by cases e) ok
end

def jtag : J → Nat
  | .num _ => 4
  | .arr _ => 6
  | .obj1 _ _ => 7
  | .obj2 _ _ _ _ => 7

set_option maxRecDepth 100000 in
set_option maxHeartbeats 1000000 in
theorem tag_any {B : Nat} {w : World} {a : J} {v : Value} (h : Rep B w a v) (w1 : World) :
    Calls Tryz.prog 95 #[v] w1 fun e w' => e = .returned (.int .u64 (jtag a)) ∧ w1 = w' := by
  cases a with
  | num x =>
    cases h
    have h9 := ta_no9
    have h4 := ta_no4
    have h87 := ta_no87
    have h119 := ta_no119
    have h121 := ta_no121
    have y87 := ta_yes87
    have y119 := ta_yes119
    have y121 := ta_yes121
    go_enter Tryz.func95, Tryz.ntmps95
    go_wp2_with fail
    go_ret
    exact ⟨rfl, rfl⟩
  | arr l =>
    obtain ⟨_, _, rfl, _⟩ := h
    have h9 := ta_no9
    have h4 := ta_no4
    have h87 := ta_no87
    have h119 := ta_no119
    have h121 := ta_no121
    have y87 := ta_yes87
    have y119 := ta_yes119
    have y121 := ta_yes121
    go_enter Tryz.func95, Tryz.ntmps95
    go_wp2_with fail
    go_ret
    exact ⟨rfl, rfl⟩
  | obj1 k a =>
    obtain ⟨_, _, rfl, _⟩ := h
    have h9 := ta_no9
    have h4 := ta_no4
    have h87 := ta_no87
    have h119 := ta_no119
    have h121 := ta_no121
    have y87 := ta_yes87
    have y119 := ta_yes119
    have y121 := ta_yes121
    go_enter Tryz.func95, Tryz.ntmps95
    go_wp2_with fail
    go_ret
    exact ⟨rfl, rfl⟩
  | obj2 k a m b =>
    obtain ⟨_, _, _, rfl, _⟩ := h
    have h9 := ta_no9
    have h4 := ta_no4
    have h87 := ta_no87
    have h119 := ta_no119
    have h121 := ta_no121
    have y87 := ta_yes87
    have y119 := ta_yes119
    have y121 := ta_yes121
    go_enter Tryz.func95, Tryz.ntmps95
    go_wp2_with fail
    go_ret
    exact ⟨rfl, rfl⟩

theorem comparable_any {B : Nat} {w : World} {a b : J} {v u : Value} (h : Rep B w a v) (h2 : Rep B w b u) (ht : jtag a = jtag b) (w1 : World) :
    Calls Tryz.prog 64 #[v, u] w1 fun e w' => e = .returned (.bool true) ∧ w1 = w' := by
  have H := Hid.mk (tag_any h)
  have H2 := Hid.mk (tag_any h2)
  clear h h2
  go_enter Tryz.func64, Tryz.ntmps64
  go_wp2_with fail
  refine (H.out _).mono ?_
  rintro e w' ⟨rfl, rfl⟩
  go_wp2_with fail
  refine (H2.out _).mono ?_
  rintro e w' ⟨rfl, rfl⟩
  have ht2 : ((jtag a : Int) == (jtag b : Int)) = true := by simp [ht]
  clear ht
  go_wp2_with fail
  go_ret
  exact ⟨rfl, rfl⟩

def feq (n m : Nat) : Bool := FloatKind.f64.format.order n m == some Ordering.eq
set_option maxRecDepth 100000 in
set_option maxHeartbeats 1000000 in
theorem eqv_num (x y : Num) (n m : Nat) (hn : fb x = n) (hm : fb y = m) (w : World) :
    Calls Tryz.prog 96 #[.iface 87 (.float .f64 n), .iface 87 (.float .f64 m)] w fun e w' => e = .returned (.bool (feq n m)) ∧ ∃ k, w' = w.drewN k := by
  have H := Hid.mk (tag_any (B := 0) (w := w) (a := .num x) (v := fv x) rfl)
  have H2 := Hid.mk (tag_any (B := 0) (w := w) (a := .num y) (v := fv y) rfl)
  unfold fv at H H2
  rw [hn] at H
  rw [hm] at H2
  clear hn hm
  go_enter Tryz.func96, Tryz.ntmps96
  go_wp2_with fail
  refine (H.out _).mono ?_
  rintro e w' ⟨rfl, rfl⟩
  simp only [jtag]
  go_wp2_with fail
  refine (H2.out _).mono ?_
  rintro e w' ⟨rfl, rfl⟩
  simp only [jtag]
  have y87 := ta_yes87
  go_wp2_with fail
  go_quiet (fail)
  go_wp2_with fail
  go_ret
  exact ⟨rfl, nq, rfl⟩

set_option maxRecDepth 100000 in
set_option maxHeartbeats 1000000 in
theorem eq_num (x y : Num) (w : World) :
    Calls Tryz.prog 65 #[.iface 87 (.float .f64 (fb x)), .iface 87 (.float .f64 (fb y))] w fun e w' => e = .returned (.bool (feq (fb x) (fb y))) ∧ ∃ k, w' = w.drewN k := by
  have H := Hid.mk (eqv_num x y _ _ rfl rfl w)
  go_enter Tryz.func65, Tryz.ntmps65
  go_wp2_with fail
  refine H.out.mono ?_
  rintro e w' ⟨rfl, k, rfl⟩
  go_wp2_with fail
  go_ret
  exact ⟨rfl, k, rfl⟩

def deqL : List Num → List Num → Bool
  | [], [] => true
  | x :: l, y :: m => feq (fb x) (fb y) && deqL l m
  | _, _ => false

theorem own_cells {w : World} {B e n cap : Nat} {a : Option Addr} {xs : List Value} (h : w.ownsRow B e 1 (.slice a n cap) n xs) (hn : 0 < n) :
    ∃ g, a = some ⟨g, 0, none⟩ ∧ B ≤ g ∧ g < w.heap.size ∧ ∀ (j : Nat) (hj : j < n), w.cell? ⟨g, j, none⟩ = some (xs[j]'(by have := h.1; simp at this; omega)) := by
  obtain ⟨g, h1, h2, h3, h4⟩ := own_some h hn
  refine ⟨g, h1, h2, h3, fun j hj => h4 j _ ?_⟩
  rw [List.getElem?_eq_getElem]

set_option maxRecDepth 100000 in
set_option maxHeartbeats 1000000 in
theorem eqv_arr {B B' : Nat} (l m : List Num) (hlm : l.length = m.length) (hsz : l.length < 1000000) (w : World) {v u : Value} (hv : Rep B w (.arr l) v) (hu : Rep B' w (.arr m) u) :
    Calls Tryz.prog 96 #[v, u] w fun e w' => e = .returned (.bool (deqL l m)) ∧ ∃ k, w' = w.drewN k := by
  have H := Hid.mk (tag_any hv)
  have H2 := Hid.mk (tag_any hu)
  obtain ⟨a, cap, rfl, ho⟩ := hv
  obtain ⟨a2, cap2, rfl, ho2⟩ := hu
  have Ho := Hid.mk ho
  have Ho2 := Hid.mk ho2
  obtain ⟨n, hn⟩ : ∃ n, n = l.length := ⟨_, rfl⟩
  rw [← hlm, ← hn] at ho2 H2
  rw [← hn] at ho H
  rw [← hlm, ← hn]
  have e0 : ((n : Int) != (n : Int)) = false := by simp
  have Hn := Hid.mk (And.intro hn (And.intro hlm hsz))
  have hn6 : n < 1000000 := by omega
  clear ho ho2 hlm hn hsz
  have y119 := ta_yes119
  go_enter Tryz.func96, Tryz.ntmps96
  go_wp2_with fail
  refine (H.out _).mono ?_
  rintro e w' ⟨rfl, rfl⟩
  simp only [jtag]
  go_wp2_with fail
  refine (H2.out _).mono ?_
  rintro e w' ⟨rfl, rfl⟩
  simp only [jtag]
  go_wp2_with fail
  go_loopg [9] n (fun f vi wr => ∃ (i k : Nat), vi = .int .i64 i ∧ f = n - i ∧ i ≤ n ∧ wr = w.drewN k ∧ deqL l m = deqL (l.drop i) (m.drop i))
  case atStart => exact ⟨0, 0, rfl, rfl, Nat.zero_le _, rfl, rfl⟩
  case round =>
    obtain ⟨i, k, rfl, hf, hi, rfl, hd⟩ := hrel
    have Hd := Hid.mk hd
    have Hf := Hid.mk hf
    clear hd hf
    by_cases hin : i < n
    · obtain ⟨g, rfl, hg1, hg2, hcs⟩ := own_cells Ho.out (by have := Hn.out.1; omega)
      obtain ⟨g2, rfl, hg3, hg4, hcs2⟩ := own_cells Ho2.out (by have := Hn.out.1; have := Hn.out.2.1; omega)
      obtain ⟨x, hx⟩ : ∃ x, x = l[i]'(by have := Hn.out.1; omega) := ⟨_, rfl⟩
      obtain ⟨y, hy⟩ : ∃ y, y = m[i]'(by have := Hn.out.1; have := Hn.out.2.1; omega) := ⟨_, rfl⟩
      have hc1 : w.cell? ⟨g, i, none⟩ = some (.iface 87 (.float .f64 (fb x))) := by
        rw [hcs i (by have := Hn.out.1; omega), hx]; simp
      have hc2 : w.cell? ⟨g2, i, none⟩ = some (.iface 87 (.float .f64 (fb y))) := by
        rw [hcs2 i (by have := Hn.out.1; have := Hn.out.2.1; omega), hy]; simp
      have hstep : deqL (l.drop i) (m.drop i) = (feq (fb x) (fb y) && deqL (l.drop (i + 1)) (m.drop (i + 1))) := by
        rw [List.drop_eq_getElem_cons (by have := Hn.out.1; omega : i < l.length), List.drop_eq_getElem_cons (by have := Hn.out.1; have := Hn.out.2.1; omega : i < m.length), deqL, hx, hy]
      have Hs := Hid.mk hstep
      clear hcs hcs2 hx hy hstep hg1 hg2 hg3 hg4
      go_wp2_with fail
      go_quiet ((go_at_call 65; exact (eq_num x y _).mono fun _ _ h => by obtain ⟨h1, j, h2⟩ := h; exact ⟨h1, _, h2.trans (by rw [World.drewN_drewN, Nat.add_assoc])⟩))
      cases hq : feq (fb x) (fb y)
      · go_wp2_with fail
        go_ret
        refine ⟨?_, k + nq, by rw [World.drewN_drewN]⟩
        rw [Hd.out, Hs.out, hq]; rfl
      · go_wp2_with fail
        go_roundg (n - (i + 1))
        case measure => have := Hf.out; omega
        case rel =>
          refine ⟨i + 1, k + nq, by simp, rfl, by omega, rfl, ?_⟩
          rw [Hd.out, Hs.out, hq]; rfl
    · go_wp2_with fail
      go_ret
      refine ⟨?_, _, rfl⟩
      rw [Hd.out, List.drop_eq_nil_of_le (by have := Hn.out.1; omega), List.drop_eq_nil_of_le (by have := Hn.out.1; have := Hn.out.2.1; omega)]
      rfl
end Go.Proofs.YtpigmadopflfkaaGreatDoor

namespace Go.Proofs.YtpigmadopflfkaaGreatDoor
open Go.RowKit Go.BigFrame

theorem range_run {w : World} {r T k e : Nat} {es : Array MapEntry} {clock : Nat} (hT : Tryz.prog.underlying T = some (.map k e)) (hb : w.heap[r]? = some (.map es clock)) :
    (Instr.range T (.map (some r))).run Tryz.prog w = .ok (.pointer (some ⟨w.heap.size, 0, none⟩)) (w.alloc (.mapIter (some r) clock #[] clock)) := by
  simp [Instr.range, run_underlying hT, MapKept.run_getObj_map hb, Result.andThen, go_sem]
theorem run_getObj_iter {w : World} {r m since last : Nat} {seen : Array Nat} (hb : w.heap[r]? = some (.mapIter (some m) since seen last)) : (getObj r).run Tryz.prog w = .ok (.mapIter (some m) since seen last) w := by
  simp [getObj, Sem.run, hb]
theorem run_setObj_iter {w : World} {r m since last : Nat} {seen : Array Nat} (o' : Obj) (hb : w.heap[r]? = some (.mapIter (some m) since seen last)) : (setObj r o').run Tryz.prog w = .ok () { w with heap := w.heap.setIfInBounds r o' } := by
  simp [setObj, Sem.run, hb]

theorem next_over {w : World} {it m : Nat} {es : Array MapEntry} {clock since last T : Nat} {seen : Array Nat} (hit : w.heap[it]? = some (.mapIter (some m) since seen last)) (hm : w.heap[m]? = some (.map es clock))
    (hg : (!seen.isEmpty && !es.isEmpty && es.all (·.born ≥ last)) = false) (hold : (es.filter fun e => !seen.contains e.born) = #[]) :
    (Instr.next (.pointer (some ⟨it, 0, none⟩)) false T).run Tryz.prog w = .ok (.tuple #[.bool false]) w := by
  simp only [Instr.next, Sem.run_bind, run_getObj_iter hit, MapKept.run_getObj_map hm, Result.andThen, hg, hold]
  simp [go_sem]

theorem next_more {w : World} {it m : Nat} {es : Array MapEntry} {clock since last T : Nat} {seen : Array Nat} (hit : w.heap[it]? = some (.mapIter (some m) since seen last)) (hm : w.heap[m]? = some (.map es clock))
    (hg : (!seen.isEmpty && !es.isEmpty && es.all (·.born ≥ last)) = false) (old : Array MapEntry) (hold : (es.filter fun e => !seen.contains e.born) = old) (h1 : old.filter (·.born < since) = old) (h2 : old.filter (·.born ≥ since) = #[]) (hne : 0 < old.size) :
    ∃ (i : Nat) (hi : i < old.size) (w' : World), (Instr.next (.pointer (some ⟨it, 0, none⟩)) false T).run Tryz.prog w = .ok (.tuple #[.bool true, old[i].key, old[i].val]) w' ∧
      w'.heap[it]? = some (.mapIter (some m) since (seen.push old[i].born) clock) ∧ Kp [it] w w' := by
  have hE : old.isEmpty = false := by
    cases h : old.isEmpty
    · rfl
    · simp at h; simp [h] at hne
  simp only [Instr.next, Sem.run_bind, run_getObj_iter hit, MapKept.run_getObj_map hm, Result.andThen, hg, hold, h1, h2, hE]
  simp [go_sem]
  by_cases hs : old.size ≤ 1
  · refine ⟨0, hne, { w with heap := w.heap.setIfInBounds it (.mapIter (some m) since (seen.push old[0].born) clock) }, ?_, ?_, ?_⟩
    · rw [if_pos hs, Array.getElem?_eq_getElem hne]
      simp only [Option.map_some]
      simp [run_setObj_iter _ hit, Result.andThen]
    · exact (MapKept.heap_set hit).1
    · exact ⟨rfl, rfl, rfl, by simp, fun i _ hn => (MapKept.heap_set hit).2 i (by simpa using hn)⟩
  · have hlt : (Question.mapNext old.size).cut (w.tape w.drawn (Question.mapNext old.size)) < old.size := Nat.mod_lt _ hne
    have hit2 : w.drew.heap[it]? = some (.mapIter (some m) since seen last) := hit
    generalize (Question.mapNext old.size).cut (w.tape w.drawn (Question.mapNext old.size)) = i at hlt
    refine ⟨i, hlt, { w.drew with heap := w.drew.heap.setIfInBounds it (.mapIter (some m) since (seen.push old[i].born) clock) }, ?_, ?_, ?_⟩
    · rw [if_neg hs, Array.getElem?_eq_getElem hlt]
      simp only [Option.map_some]
      have hset := run_setObj_iter (.mapIter (some m) since (seen.push old[i].born) clock) hit2
      simp [hset, Result.andThen]
    · exact (MapKept.heap_set hit2).1
    · exact ⟨rfl, rfl, rfl, by simp, fun i _ hn => (MapKept.heap_set hit2).2 i (by simpa using hn)⟩

theorem entry_run {w : World} {it m : Nat} {es : Array MapEntry} {clock since : Nat} {seen : Array Nat} {b : Nat} {e : MapEntry} (hit : w.heap[it]? = some (.mapIter (some m) since (seen.push b) clock)) (hm : w.heap[m]? = some (.map es clock))
    (he : es.find? (·.born == b) = some e) : (Instr.entry (.pointer (some ⟨it, 0, none⟩))).run Tryz.prog w = .ok (.tuple #[e.key, e.val]) w := by
  simp only [Instr.entry, Sem.run_bind, run_getObj_iter hit, MapKept.run_getObj_map hm, Result.andThen]
  simp [go_sem, he, MapKept.run_getObj_map hm, Result.andThen]
theorem lookup_run {w : World} {m : Nat} {es : Array MapEntry} {clock T e i : Nat} {k : ByteArray} {v : Value} (ok : Bool) (hT : Tryz.prog.underlying T = some (.map 9 e)) (hm : w.heap[m]? = some (.map es clock)) (hf : Instr.findNow .string (.string k) es.toList 0 = some (some (i, v))) :
    (Instr.lookup T (.map (some m)) (.string k) ok).run Tryz.prog w = .ok (if ok then .tuple #[v, .bool true] else v) w := by
  simp [Instr.lookup, run_underlying hT, MapKept.run_getObj_map hm, MapKept.run_checkKey Tryz.underlying9 (show MapKept.IsKey .string (.string k) by simp [MapKept.IsKey]), MapKept.run_findKey Tryz.underlying9 hf, Result.andThen]
theorem lookup_none {w : World} {m : Nat} {es : Array MapEntry} {clock T e : Nat} {k : ByteArray} {z : Value} (ok : Bool) (hT : Tryz.prog.underlying T = some (.map 9 e)) (hz : (zeroValue e).run Tryz.prog w = .ok z w) (hm : w.heap[m]? = some (.map es clock)) (hf : Instr.findNow .string (.string k) es.toList 0 = some none) :
    (Instr.lookup T (.map (some m)) (.string k) ok).run Tryz.prog w = .ok (if ok then .tuple #[z, .bool false] else z) w := by
  simp [Instr.lookup, run_underlying hT, MapKept.run_getObj_map hm, MapKept.run_checkKey Tryz.underlying9 (show MapKept.IsKey .string (.string k) by simp [MapKept.IsKey]), MapKept.run_findKey Tryz.underlying9 hf, Result.andThen, hz]
end Go.Proofs.YtpigmadopflfkaaGreatDoor
