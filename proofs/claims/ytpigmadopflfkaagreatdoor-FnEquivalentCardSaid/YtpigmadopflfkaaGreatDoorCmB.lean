/- compareArrays and diff of lists leave no operation where the option Equivalent is on. Condition: the second list holds the numbers of the first. -/
import Derived.Test.YtpigmadopflfkaaGreatDoorUnA
import Derived.WalkMore
namespace Go.Proofs.YtpigmadopflfkaaGreatDoor
open Go.RowKit Go.BigFrame

/-- The differ in block d: its cells are those of C, but for the hasher's sum. -/
def Dif (w : World) (d : Nat) (C : Array Value) : Prop := ∃ s, w.heap[d]? = some (.cells (C.setIfInBounds 19 (.int .u64 s)) 71)
theorem Dif.kept {w w' : World} {d : Nat} {C : Array Value} {S : List Nat} (h : Dif w d C) (hk : Kp S w w') (hn : d ∉ S) : Dif w' d C := by
  obtain ⟨s, h⟩ := h
  exact ⟨s, hk.at h hn⟩
theorem Dif.cell {w : World} {d : Nat} {C : Array Value} (h : Dif w d C) (i : Nat) (hi : i ≠ 19) : w.cell? ⟨d, i, none⟩ = C[i]? := by
  obtain ⟨s, h⟩ := h
  rw [blk_cell h, Array.getElem?_setIfInBounds_ne (fun e => hi e.symm)]
theorem Dif.lt {w : World} {d : Nat} {C : Array Value} (h : Dif w d C) : d < w.heap.size := by
  obtain ⟨s, h⟩ := h
  exact lt_of_heap h
/-- The differ's options where 'Equivalent' was asked for (v: whether it was). -/
structure Opt (C : Array Value) (v : Bool) : Prop where
  size : C.size = 22
  c4 : C[4]? = some (.bool false)
  c5 : C[5]? = some (.bool false)
  c6 : C[6]? = some (.bool false)
  c7 : C[7]? = some (.bool false)
  c8 : C[8]? = some (.bool v)
  c9 : C[9]? = some (.bool false)
  c10 : C[10]? = some (.slice none 0 0)

set_option maxRecDepth 100000 in
set_option maxHeartbeats 2000000 in
theorem arrays_eqv (d B B' n cap cap2 n0 cap0 : Nat) (a a2 a0 : Option Addr) (key : ByteArray) (idx : Int) (pk : ByteArray) (pi sep : Int) (t : ByteArray) (C : Array Value) (l m : List Num) (w : World) (hd : Dif w d C) (hC : Opt C true)
    (hn : l.length = n) (hm : m.length = n) (hn6 : n < 1000000) (ho : w.ownsRow B 20 1 (.slice a n cap) n (l.map fv)) (ho2 : w.ownsRow B' 20 1 (.slice a2 n cap2) n (m.map fv)) (hperm : ∀ x ∈ m, fb x ∈ l.map fb) (hdB : d < B) (hdB' : d < B') :
    Calls Tryz.prog 78 #[.pointer (some ⟨d, 0, none⟩), .agg #[.slice a0 n0 cap0, .string key, .int .i64 idx, .string pk, .int .i64 pi, .int .i64 sep], .slice a n cap, .slice a2 n cap2, .string t] w fun e w' => e = .returned (.tuple #[]) ∧
      Dif w' d C ∧ Kp [d] w w' := by
  have H := Hid.mk (And.intro hd (And.intro hC (And.intro hn (And.intro hm (And.intro ho (And.intro ho2 (And.intro hperm (And.intro hdB hdB'))))))))
  clear hd hC hn hm ho ho2 hperm hdB hdB'
  go_enter Tryz.func78, Tryz.ntmps78
  go_wp2_with fail
  go_step3
  go_wp2_with fail
  have hk0 : Kp [] w (w.alloc (.cells #[.slice a0 n0 cap0, .string key, .int .i64 idx, .string pk, .int .i64 pi, .int .i64 sep] 64)) := (Kp.refl _ _).alloc _
  have hp0 : Ptr (w.alloc (.cells #[.slice a0 n0 cap0, .string key, .int .i64 idx, .string pk, .int .i64 pi, .int .i64 sep] 64)) w.heap.size a0 n0 cap0 key idx pk pi sep := heap_alloc_same _ _
  refine (snapshot_any w.heap.size n0 cap0 a0 key idx pk pi sep _ hp0).mono ?_
  rintro e w1 ⟨rfl, _, hk1⟩
  have hk1' : Kp [] w w1 := hk0.trans' hk1 (fun j hj hjl => by simp at hj; omega)
  have hd1 := H.out.1.kept hk1' (by simp)
  have hc8 : w1.cell? ⟨d, 8, none⟩ = some (.bool true) := (hd1.cell 8 (by decide)).trans H.out.2.1.c8
  have H1 := Hid.mk (And.intro hk1' hd1)
  clear hk0 hp0 hk1 hk1' hd1
  go_wp2_with fail
  obtain ⟨s, hs⟩ := H1.out.2
  refine (unordered_any d B B' n cap cap2 a a2 s C l m w1 hs (by have := H.out.2.1.size; omega) H.out.2.1.c8 H.out.2.2.1 H.out.2.2.2.1 hn6 (H1.out.1.owns H.out.2.2.2.2.1 (by simp)) (H1.out.1.owns H.out.2.2.2.2.2.1 (by simp)) H.out.2.2.2.2.2.2.1 H.out.2.2.2.2.2.2.2.1 H.out.2.2.2.2.2.2.2.2).mono ?_
  rintro e w2 ⟨rfl, ⟨s2, hs2⟩, hk2⟩
  have H2 := Hid.mk (And.intro hs2 hk2)
  clear hs hs2 hk2
  go_wp2_with fail
  rw [Exit.noGoto_ret]
  exact bodyPost_ret (results_none rfl _ _ _) rfl ⟨rfl, ⟨s2, H2.out.1⟩, (H1.out.1.mono (T := [d]) (by simp)).trans H2.out.2⟩
end Go.Proofs.YtpigmadopflfkaaGreatDoor

namespace Go.Proofs.YtpigmadopflfkaaGreatDoor
open Go.RowKit Go.BigFrame

theorem sim_tag : ∀ {a b : J}, Sim a b → jtag a = jtag b
  | .num _, .num _, _ => rfl
  | .arr _, .arr _, _ => rfl
  | .obj1 _ _, .obj1 _ _, _ => rfl
  | .obj2 _ _ _ _, .obj2 _ _ _ _, _ => rfl

set_option maxRecDepth 100000 in
set_option maxHeartbeats 2000000 in
theorem diff_same (a b : J) (hs : Sim a b) (he : deq a b = true) (d B B' n0 cap0 : Nat) (a0 : Option Addr) (key : ByteArray) (idx : Int) (pk : ByteArray) (pi sep : Int) (t : ByteArray) (C : Array Value) (v u : Value) (o : Bool) (w : World)
    (hd : Dif w d C) (hC : Opt C o) (hv : Rep B w a v) (hu : Rep B' w b u) :
    Calls Tryz.prog 52 #[.pointer (some ⟨d, 0, none⟩), .agg #[.slice a0 n0 cap0, .string key, .int .i64 idx, .string pk, .int .i64 pi, .int .i64 sep], v, u, .string t] w fun e w' => e = .returned (.tuple #[]) ∧ Kp [] w w' := by
  have H := Hid.mk (And.intro hd (And.intro hC (And.intro hv hu)))
  have Hs := Hid.mk (And.intro hs he)
  clear hd hC hv hu hs he
  go_enter Tryz.func52, Tryz.ntmps52
  go_wp2_with fail
  have hk0 : Kp [] w (w.alloc (.cells #[.slice a0 n0 cap0, .string key, .int .i64 idx, .string pk, .int .i64 pi, .int .i64 sep] 64)) := (Kp.refl _ _).alloc _
  generalize w.alloc (.cells #[.slice a0 n0 cap0, .string key, .int .i64 idx, .string pk, .int .i64 pi, .int .i64 sep] 64) = w1 at hk0
  have hd4 : w1.cell? ⟨d, 4, none⟩ = some (.bool false) := ((H.out.1.kept hk0 (by simp)).cell 4 (by decide)).trans H.out.2.1.c4
  have H1 := Hid.mk hk0
  clear hk0
  refine (isIgnored_any d n0 cap0 a0 key idx pk pi sep w1 hd4).mono ?_
  rintro e w2 ⟨rfl, hk2⟩
  have H2 := Hid.mk (H1.out.trans hk2)
  clear hk2 hd4
  go_wp2_with fail
  refine (comparable_any ((H.out.2.2.1.kept H2.out (by simp)).mono (Nat.zero_le _)) ((H.out.2.2.2.kept H2.out (by simp)).mono (Nat.zero_le _)) (sim_tag Hs.out.1) w2).mono ?_
  rintro e w' ⟨rfl, rfl⟩
  go_wp2_with fail
  refine (eq_any a b Hs.out.1 w2 B B' v u (H.out.2.2.1.kept H2.out (by simp)) (H.out.2.2.2.kept H2.out (by simp))).mono ?_
  rintro e w3 ⟨rfl, hk3⟩
  have H3 := Hid.mk hk3
  clear hk3
  rw [Hs.out.2]
  go_wp2_with fail
  exact bodyPost_ret (results_none rfl _ _ _) rfl ⟨rfl, H2.out.trans H3.out⟩

set_option maxRecDepth 100000 in
set_option maxHeartbeats 2000000 in
theorem diff_arr (l m : List Num) (hlm : l.length = m.length) (hl6 : l.length < 1000000) (hperm : ∀ x ∈ m, fb x ∈ l.map fb) (d B B' n0 cap0 : Nat) (a0 : Option Addr) (key : ByteArray) (idx : Int) (pk : ByteArray) (pi sep : Int) (t : ByteArray) (C : Array Value) (v u : Value) (w : World)
    (hd : Dif w d C) (hC : Opt C true) (hv : Rep B w (.arr l) v) (hu : Rep B' w (.arr m) u) (hdB : d < B) (hdB' : d < B') :
    Calls Tryz.prog 52 #[.pointer (some ⟨d, 0, none⟩), .agg #[.slice a0 n0 cap0, .string key, .int .i64 idx, .string pk, .int .i64 pi, .int .i64 sep], v, u, .string t] w fun e w' => e = .returned (.tuple #[]) ∧ Dif w' d C ∧ Kp [d] w w' := by
  have hsim : Sim (.arr l) (.arr m) := ⟨hlm, hl6⟩
  by_cases he : deq (.arr l) (.arr m) = true
  · refine (diff_same _ _ hsim he d B B' n0 cap0 a0 key idx pk pi sep t C v u true w hd hC hv hu).mono ?_
    rintro e w' ⟨rfl, hk⟩
    exact ⟨rfl, hd.kept hk (by simp), hk.mono (by simp)⟩
  have he2 : deq (.arr l) (.arr m) = false := by simpa using he
  have H := Hid.mk (And.intro hd (And.intro hC (And.intro hv (And.intro hu (And.intro hdB hdB')))))
  have Hs := Hid.mk (And.intro hsim (And.intro he2 (And.intro hperm (And.intro hlm hl6))))
  obtain ⟨a, cap, rfl, ho⟩ := hv
  obtain ⟨a2, cap2, rfl, ho2⟩ := hu
  have Ho := Hid.mk (And.intro ho ho2)
  clear hd hC hdB hdB' hsim he he2 hperm ho ho2 hlm hl6
  go_enter Tryz.func52, Tryz.ntmps52
  go_wp2_with fail
  obtain ⟨p, hp⟩ : ∃ p, p = w.heap.size := ⟨_, rfl⟩
  have hk0 : Kp [] w (w.alloc (.cells #[.slice a0 n0 cap0, .string key, .int .i64 idx, .string pk, .int .i64 pi, .int .i64 sep] 64)) := (Kp.refl _ _).alloc _
  have hp1 : Ptr (w.alloc (.cells #[.slice a0 n0 cap0, .string key, .int .i64 idx, .string pk, .int .i64 pi, .int .i64 sep] 64)) p a0 n0 cap0 key idx pk pi sep := by rw [hp]; exact heap_alloc_same _ _
  rw [← hp]
  generalize w.alloc (.cells #[.slice a0 n0 cap0, .string key, .int .i64 idx, .string pk, .int .i64 pi, .int .i64 sep] 64) = w1 at hk0 hp1
  have hd4 : w1.cell? ⟨d, 4, none⟩ = some (.bool false) := ((H.out.1.kept hk0 (by simp)).cell 4 (by decide)).trans H.out.2.1.c4
  have H1 := Hid.mk (And.intro hk0 hp1)
  clear hk0 hp1 hp
  refine (isIgnored_any d n0 cap0 a0 key idx pk pi sep w1 hd4).mono ?_
  rintro e w2 ⟨rfl, hk2⟩
  have H2 := Hid.mk (And.intro (H1.out.1.trans hk2) (hk2.at H1.out.2 (by simp)))
  clear hk2 hd4
  go_wp2_with fail
  refine (comparable_any ((H.out.2.2.1.kept H2.out.1 (by simp)).mono (Nat.zero_le _)) ((H.out.2.2.2.1.kept H2.out.1 (by simp)).mono (Nat.zero_le _)) (sim_tag Hs.out.1) w2).mono ?_
  rintro e w' ⟨rfl, rfl⟩
  go_wp2_with fail
  refine (eq_any _ _ Hs.out.1 w2 B B' _ _ (H.out.2.2.1.kept H2.out.1 (by simp)) (H.out.2.2.2.1.kept H2.out.1 (by simp))).mono ?_
  rintro e w3 ⟨rfl, hk3⟩
  have hk3' := H2.out.1.trans hk3
  have hd3 := H.out.1.kept hk3' (by simp)
  have hc10 := (hd3.cell 10 (by decide)).trans H.out.2.1.c10
  have hc9 := (hd3.cell 9 (by decide)).trans H.out.2.1.c9
  have hc5 := (hd3.cell 5 (by decide)).trans H.out.2.1.c5
  have hcp := blk_cell (hk3.at H2.out.2 (by simp))
  have H3 := Hid.mk (And.intro hk3' hd3)
  clear hk3 hk3' hd3
  rw [Hs.out.2.1]
  have y119 := ta_yes119
  go_wp2_with fail
  go_still_tail 6, (by kernel_rfl)
  change wpList _ _ _ _ _ w3.drew
  have hc5d : w3.drew.cell? ⟨d, 5, none⟩ = some (.bool false) := hc5
  rw [← Hs.out.2.2.2.1]
  clear hcp hc9 hc10
  go_wp2_with fail
  have Ho3 := Hid.mk (And.intro (H3.out.1.owns Ho.out.1 (by simp)) (H3.out.1.owns Ho.out.2 (by simp)))
  refine (arrays_eqv d B B' l.length cap cap2 n0 cap0 a a2 a0 key idx pk pi sep t C l m w3.drew H3.out.2 H.out.2.1 rfl Hs.out.2.2.2.1.symm Hs.out.2.2.2.2 Ho3.out.1 (by have h := Ho3.out.2; rw [← Hs.out.2.2.2.1] at h; exact h) Hs.out.2.2.1 H.out.2.2.2.2.1 H.out.2.2.2.2.2).mono ?_
  rintro e w4 ⟨rfl, hd4, hk4⟩
  have hc6 := (hd4.cell 6 (by decide)).trans H.out.2.1.c6
  have H4 := Hid.mk (And.intro hd4 hk4)
  clear hd4 hk4 hc5 hc5d
  go_wp2_with fail
  exact bodyPost_end (results_none rfl _ _ _) rfl ⟨rfl, H4.out.1, (H3.out.1.mono (T := [d]) (by simp)).drew.trans H4.out.2⟩
end Go.Proofs.YtpigmadopflfkaaGreatDoor
