/- The patch gets one operation: Patch.append, Differ.replace, and diff of two numbers that differ. -/
import Derived.Test.YtpigmadopflfkaaGreatDoorIxA
namespace Go.Proofs.YtpigmadopflfkaaGreatDoor
open Go.RowKit Go.BigFrame
theorem info80 : (Tryz.prog.info? 80).map (fun i => (i.zero, i.size, i.bytes)) = some (some (.agg #[.nilIface, .nilIface, .string .empty, .string .empty, .string .empty, .int .i64 0]), 6, 88) := by kernel_rfl
theorem own_op {w : World} {B : Nat} {v y x : Value} {path : List Nat} {n : Int} (h : w.ownsRow B 80 6 v 1 [y, x, .string (txt [114, 101, 112, 108, 97, 99, 101]), .string .empty, .string (txt path), .int .i64 n]) :
    ∃ g cap, v = .slice (some ⟨g, 0, none⟩) 1 cap ∧ B ≤ g ∧ OpAt w g path y x := by
  rcases h.2 with ⟨_, h1⟩ | ⟨g, cap, cur, rfl, hb, hg, h1, h2, h3, h4⟩
  · cases h1
  · have e : ∀ j, j < 6 → cur[j]? = [y, x, .string (txt [114, 101, 112, 108, 97, 99, 101]), .string .empty, .string (txt path), .int .i64 n][j]? := fun j hj => by
      rw [← h4, List.getElem?_take, if_pos (by omega), Array.getElem?_toList]
    exact ⟨g, cap, rfl, hb, cur, n, hg, e 0 (by omega), e 1 (by omega), e 2 (by omega), e 3 (by omega), e 4 (by omega), e 5 (by omega)⟩

set_option maxRecDepth 100000 in
set_option maxHeartbeats 1000000 in
theorem append_op (d : Nat) (path : List Nat) (ty tx : TypeId) (vy vx : Value) (n : Int) (w : World) (h : w.cell? ⟨d, 10, none⟩ = some (.slice none 0 0)) :
    Calls Tryz.prog 75 #[.pointer (some ⟨d, 10, none⟩), .string { data := #[114, 101, 112, 108, 97, 99, 101] }, .string { data := #[] }, .string (txt path), .iface tx vx, .iface ty vy, .int .i64 n] w fun e w' =>
      ∃ g cap, e = .returned (.slice (some ⟨g, 0, none⟩) 1 cap) ∧ w.heap.size ≤ g ∧ OpAt w' g path (.iface ty vy) (.iface tx vx) ∧ Kp [] w w' := by
  obtain ⟨i0, hi0, hz0, hz1, hz2⟩ := info_parts info80
  go_enter Tryz.func75, Tryz.ntmps75
  go_wp2_with (at_builtin; refine wpList_append_grows _ rfl _ _ 41 rfl 80 i0 _ 6 88 Tryz.underlying41 hi0 hz0 hz1 hz2 rfl (by decide) none 0 0 [] rfl (fun _ => ⟨rfl, rfl⟩) rfl (by intro _ _ _ _ h; simp at h) ⟨w.heap.size, 0, none⟩ 1 1 [.iface ty vy, .iface tx vx, .string (txt [114, 101, 112, 108, 97, 99, 101]), .string .empty, .string (txt path), .int .i64 n] rfl rfl ?c1 ?c2 (by omega) (by unfold maxLen; omega) (by omega) ?grow)
  case c1 =>
    intro j u hj
    have hb := heap_alloc_same w (.cells #[.iface ty vy, .iface tx vx, .string { data := #[114, 101, 112, 108, 97, 99, 101] }, .string { data := #[] }, .string (txt path), .int .i64 n] 80)
    have hj6 : j < 6 := by have := (List.getElem?_eq_some_iff.1 hj).1; simpa using this
    have e : (⟨w.heap.size, 0, none⟩ : Addr).add j = ⟨w.heap.size, j, none⟩ := by unfold Addr.add; split <;> simp_all
    rw [e, blk_cell hb]
    rw [← hj]
    obtain rfl | rfl | rfl | rfl | rfl | rfl : j = 0 ∨ j = 1 ∨ j = 2 ∨ j = 3 ∨ j = 4 ∨ j = 5 := by omega
    all_goals rfl
  case c2 =>
    intro u hu
    simp at hu
    rcases hu with rfl | rfl | rfl | rfl | rfl | rfl <;> rfl
  case grow =>
    intro v' w' hown hgr
    obtain ⟨g, cap, rfl, hg, hop⟩ := own_op hown
    have H := Hid.mk (And.intro hg (And.intro hop hgr))
    clear hown hg hop hgr
    go_wp2_with fail
    go_ret
    exact ⟨g, cap, rfl, Nat.le_trans (by simp) H.out.1, H.out.2.1, ((Kp.refl _ _).alloc _).trans (Kp.ofGrown H.out.2.2)⟩
theorem Dif.setI {w : World} {d : Nat} {C : Array Value} (h : Dif w d C) (i : Nat) (hi : i ≠ 19) (v : Value) : Dif (w.setCell ⟨d, i, none⟩ v) d (C.setIfInBounds i v) := by
  obtain ⟨s, h⟩ := h
  refine ⟨s, ?_⟩
  rw [heap_setCell_same h, Array.setIfInBounds_comm _ _ (fun e => hi e.symm)]

set_option maxRecDepth 100000 in
set_option maxHeartbeats 1000000 in
theorem replace_any (d : Nat) (C : Array Value) (path : List Nat) (ty tx : TypeId) (vy vx : Value) (t : ByteArray) (w : World) (hd : Dif w d C) (hC : Opt C false) :
    Calls Tryz.prog 76 #[.pointer (some ⟨d, 0, none⟩), .string (txt path), .iface tx vx, .iface ty vy, .string t] w fun e w' => e = .returned (.tuple #[]) ∧ Added w' w.heap.size d C path (.iface ty vy) (.iface tx vx) ∧ Kp [d] w w' := by
  have c7 := (hd.cell 7 (by decide)).trans hC.c7
  have H := Hid.mk (append_op d path ty tx vy vx t.size w ((hd.cell 10 (by decide)).trans hC.c10))
  have Hd := Hid.mk (And.intro hd hC)
  clear hd hC
  go_enter Tryz.func76, Tryz.ntmps76
  go_wp2_with fail
  refine H.out.mono ?_
  rintro e w1 ⟨g, cap, rfl, hg, hop, hk⟩
  have hd1 := Hd.out.1.kept hk (by simp)
  obtain ⟨vo, ho⟩ : ∃ vo, w1.cell? ⟨d, 10, none⟩ = some vo := ⟨_, (hd1.cell 10 (by decide)).trans Hd.out.2.c10⟩
  have hf : w1.frozen? ⟨d, 10, none⟩ = false := by obtain ⟨s, hs⟩ := hd1; exact blk_frozen hs 10
  have H1 := Hid.mk (And.intro hg (And.intro hop (And.intro hk hd1)))
  clear hg hop hk hd1 c7
  go_wp2_with fail
  have hdg : g ≠ d := by have := H1.out.1; have := Hd.out.1.lt; omega
  refine bodyPost_end (results_none rfl _ _ _) rfl ⟨rfl, ⟨g, cap, H1.out.1, H1.out.2.2.2.setI 10 (by decide) _, ?_⟩, (H1.out.2.2.1.mono (T := [d]) (by simp)).setCell _ (.inl (by simp))⟩
  obtain ⟨cur, n, h3, h4⟩ := H1.out.2.1
  exact ⟨cur, n, (heap_setCell_other (by simpa using hdg) _).trans h3, h4⟩

set_option maxRecDepth 100000 in
set_option maxHeartbeats 2000000 in
theorem diffAdd_num (x z : Num) (hne : feq (fb x) (fb z) = false) : DiffAdd (.num x) (.num z) [] (fv z) (fv x) := by
  intro d B B' C w0 w v u a0 n0 cap0 cs0 key idx pk pi sep t hv hu hk0 hdl hdB hdB' hd hC hb hn ht
  obtain rfl : v = fv x := hv
  obtain rfl : u = fv z := hu
  have hda0 : d ∉ rowOf a0 := fun h => by have := (rowOf_mem hb d h).1; omega
  have H := Hid.mk (And.intro hd (And.intro hC (And.intro hb hda0)))
  have Hs := Hid.mk hne
  clear hd hC hne hb hda0 hk0 hdl hdB hdB' hn ht
  go_enter Tryz.func52, Tryz.ntmps52
  go_wp2_with fail
  obtain ⟨p, hp⟩ : ∃ p, p = w.heap.size := ⟨_, rfl⟩
  have hk0 : Kp [] w (w.alloc (.cells #[.slice a0 n0 cap0, .string key, .int .i64 idx, .string pk, .int .i64 pi, .int .i64 sep] 64)) := (Kp.refl _ _).alloc _
  have hp1 : Ptr (w.alloc (.cells #[.slice a0 n0 cap0, .string key, .int .i64 idx, .string pk, .int .i64 pi, .int .i64 sep] 64)) p a0 n0 cap0 key idx pk pi sep := by rw [hp]; exact heap_alloc_same _ _
  rw [← hp]
  generalize w.alloc (.cells #[.slice a0 n0 cap0, .string key, .int .i64 idx, .string pk, .int .i64 pi, .int .i64 sep] 64) = w1 at hk0 hp1
  have hd4 : w1.cell? ⟨d, 4, none⟩ = some (.bool false) := ((H.out.1.kept hk0 (by simp)).cell 4 (by decide)).trans H.out.2.1.c4
  have H1 := Hid.mk (And.intro hk0 hp1)
  clear hk0 hp1 hp
  refine (isIgnored_any d n0 cap0 a0 key idx pk pi sep w1 hd4).mono ?_
  rintro e w2 ⟨rfl, hk2⟩
  have H2 := Hid.mk (And.intro (H1.out.1.trans hk2) (hk2.at H1.out.2 (by simp)))
  clear hk2 hd4
  go_wp2_with fail
  refine (comparable_any (show Rep 0 w2 (.num x) (fv x) from rfl) (show Rep 0 w2 (.num z) (fv z) from rfl) rfl w2).mono ?_
  rintro e w' ⟨rfl, rfl⟩
  go_wp2_with fail
  refine (eq_any (.num x) (.num z) trivial w2 B B' _ _ rfl rfl).mono ?_
  rintro e w3 ⟨rfl, hk3⟩
  have hk3' := H2.out.1.trans hk3
  have hd3 := H.out.1.kept hk3' (by simp)
  have hc10 := (hd3.cell 10 (by decide)).trans H.out.2.1.c10
  have H3 := Hid.mk (And.intro hk3' (hk3.at H2.out.2 (by simp)))
  clear hk3 hk3' hd3
  rw [show deq (.num x) (.num z) = false from Hs.out]
  have n121 := ta_no121
  have n119 := ta_no119
  go_wp2_with fail
  refine (eq_any (.num x) (.num z) trivial w3 B B' _ _ rfl rfl).mono ?_
  rintro e w4 ⟨rfl, hk4⟩
  have hk4' := H3.out.1.trans hk4
  have H4 := Hid.mk (And.intro hk4' (hk4.at H3.out.2 (by simp)))
  clear hk4 hk4' hc10
  rw [show deq (.num x) (.num z) = false from Hs.out]
  go_wp2_with fail
  refine (copy_any w0.heap.size p n0 cap0 a0 cs0 key idx pk pi sep w4 H4.out.2 (H4.out.1.owns H.out.2.2.1 (by simp))).mono ?_
  rintro e w' ⟨rfl, rfl⟩
  go_wp2_with fail
  refine (replace_any d C cs0 87 87 _ _ t w4 (H.out.1.kept H4.out.1 (by simp)) H.out.2.1).mono ?_
  rintro e w5 ⟨rfl, hadd, hk5⟩
  have H5 := Hid.mk (And.intro hadd hk5)
  clear hadd hk5 n121 n119
  go_wp2_with fail
  refine bodyPost_ret (results_none rfl _ _ _) rfl ⟨rfl, ?_, ?_, ?_⟩
  · have := H5.out.1.mono (lo' := w.heap.size) H4.out.1.size
    simpa using this
  · exact (H4.out.1.mono (T := d :: rowOf a0) (by simp)).trans (H5.out.2.mono (by simp))
  · exact H5.out.2.owns (H4.out.1.owns H.out.2.2.1 (by simp)) (fun k hk e => H.out.2.2.2 (by simp at e; subst e; exact own_row hk))
end Go.Proofs.YtpigmadopflfkaaGreatDoor
