/- unorderedDeepEqualSlice of two lists of numbers says yes where the second holds the numbers of the first. Condition: the lists are of one length. -/
import Derived.Test.YtpigmadopflfkaaGreatDoorHsB
namespace Go.Proofs.YtpigmadopflfkaaGreatDoor
open Go.RowKit Go.BigFrame

/-- A set of numbers, whose keys hold at least these. -/
def SetOf (w : World) (b : Nat) (ks : List Int) : Prop :=
  ∃ es clock, w.heap[b]? = some (.map es clock) ∧ (∀ e ∈ es.toList, ∃ x, e.key = .int .u64 x ∧ e.val = .agg #[]) ∧ ∀ x ∈ ks, ∃ e ∈ es.toList, e.key = .int .u64 x
theorem SetOf.kept {w w' : World} {b : Nat} {ks : List Int} {S : List Nat} (h : SetOf w b ks) (hk : Kp S w w') (hn : b ∉ S) : SetOf w' b ks := by
  obtain ⟨es, clock, hb, h⟩ := h
  exact ⟨es, clock, hk.at hb hn, h⟩
theorem find_int (x : Int) : ∀ (es : List MapEntry) (i : Nat), (∀ e ∈ es, ∃ y, e.key = .int .u64 y ∧ e.val = .agg #[]) →
    (Instr.findNow (.int .u64) (.int .u64 x) es i = some none ∧ ∀ e ∈ es, e.key ≠ .int .u64 x) ∨ ∃ j, Instr.findNow (.int .u64) (.int .u64 x) es i = some (some (i + j, .agg #[])) ∧ ∃ e, es[j]? = some e ∧ e.key = .int .u64 x
  | [], i, _ => .inl ⟨rfl, by simp⟩
  | e :: es, i, h => by
    obtain ⟨y, hy, hv⟩ := h e (by simp)
    by_cases hxy : x = y
    · subst hxy
      refine .inr ⟨0, ?_, e, rfl, hy⟩
      simp [Instr.findNow, Instr.sameNow, hy, hv]
    · have hb : (x == y) = false := by simpa using hxy
      have h1 : Instr.findNow (.int .u64) (.int .u64 x) (e :: es) i = Instr.findNow (.int .u64) (.int .u64 x) es (i + 1) := by
        rw [Instr.findNow]
        simp [Instr.sameNow, hy, hb]
      rw [h1]
      rcases find_int x es (i + 1) (fun z hz => h z (by simp [hz])) with ⟨h2, h3⟩ | ⟨j, h2, e2, h3, h4⟩
      · refine .inl ⟨h2, fun z hz => ?_⟩
        simp at hz
        rcases hz with rfl | hz
        · rw [hy]; simpa using fun e => hxy e.symm
        · exact h3 z hz
      · exact .inr ⟨j + 1, by rw [h2]; congr 3; omega, e2, by simpa using h3, h4⟩
theorem set_put {w : World} {b : Nat} {ks : List Int} (x : Int) (h : SetOf w b ks) :
    ∃ w', (Instr.mapUpdate 225 (.map (some b)) (.int .u64 x) (.agg #[])).run Tryz.prog w = .ok () w' ∧ SetOf w' b (ks ++ [x]) ∧ Kp [b] w w' := by
  obtain ⟨es, clock, hb, hint, hks⟩ := h
  have hck := MapKept.run_checkKey (P := Tryz.prog) (w := w) Tryz.underlying65 (show MapKept.IsKey (.int .u64) (.int .u64 x) by simp [MapKept.IsKey])
  rcases find_int x es.toList 0 hint with ⟨h1, _⟩ | ⟨j, h1, e, h2, h3⟩
  · refine ⟨{ w with heap := w.heap.setIfInBounds b (.map (es.push ⟨.int .u64 x, .agg #[], clock⟩) (clock + 1)) }, ?_, ⟨_, _, (MapKept.heap_set hb).1, ?_, ?_⟩, ⟨rfl, rfl, rfl, by simp, fun i _ hn => (MapKept.heap_set hb).2 i (by simpa using hn)⟩⟩
    · simp [Instr.mapUpdate, run_underlying Tryz.underlying225, MapKept.run_getObj_map hb, hck, MapKept.run_findKey Tryz.underlying65 h1, MapKept.run_setObj_map _ hb, Result.andThen]
    · intro z hz
      simp at hz
      rcases hz with hz | rfl
      · exact hint z (by simpa using hz)
      · exact ⟨x, rfl, rfl⟩
    · intro z hz
      simp at hz
      rcases hz with hz | rfl
      · obtain ⟨e, he, h4⟩ := hks z hz
        exact ⟨e, by simp at he ⊢; exact .inl he, h4⟩
      · exact ⟨⟨.int .u64 z, .agg #[], clock⟩, by simp, rfl⟩
  · rw [Nat.zero_add] at h1
    have hj : es[j]? = some e := by simpa using h2
    have hval : e.val = .agg #[] := by
      obtain ⟨y, _, h⟩ := hint e (by simpa using Array.mem_of_getElem? hj)
      exact h
    have hsame : es.modify j (fun e => { e with key := .int .u64 x, val := .agg #[] }) = es := by
      apply Array.ext_getElem?
      intro i
      rw [Array.getElem?_modify]
      split
      · rename_i hij
        subst hij
        rw [hj]
        simp
        cases e
        simp at h3 hval
        simp [h3, hval]
      · rfl
    refine ⟨{ w with heap := w.heap.setIfInBounds b (.map (es.modify j fun e => { e with key := .int .u64 x, val := .agg #[] }) clock) }, ?_, ⟨_, _, (MapKept.heap_set hb).1, ?_, ?_⟩, ⟨rfl, rfl, rfl, by simp, fun i _ hn => (MapKept.heap_set hb).2 i (by simpa using hn)⟩⟩
    · simp [Instr.mapUpdate, run_underlying Tryz.underlying225, MapKept.run_getObj_map hb, hck, MapKept.run_findKey Tryz.underlying65 h1, MapKept.run_setObj_map _ hb, Result.andThen, hj, h3, Instr.keyThatStays, Instr.sameBits]
    · rw [hsame]; exact hint
    · intro z hz
      rw [hsame]
      simp at hz
      rcases hz with hz | rfl
      · exact hks z hz
      · exact ⟨e, by simpa using Array.mem_of_getElem? hj, h3⟩
theorem set_has {w : World} {b : Nat} {ks : List Int} {x : Int} (h : SetOf w b ks) (hx : x ∈ ks) :
    (Instr.lookup 225 (.map (some b)) (.int .u64 x) true).run Tryz.prog w = .ok (.tuple #[.agg #[], .bool true]) w := by
  obtain ⟨es, clock, hb, hint, hks⟩ := h
  have hck := MapKept.run_checkKey (P := Tryz.prog) (w := w) Tryz.underlying65 (show MapKept.IsKey (.int .u64) (.int .u64 x) by simp [MapKept.IsKey])
  rcases find_int x es.toList 0 hint with ⟨_, h1⟩ | ⟨j, h1, e, h2, h3⟩
  · obtain ⟨e, he, h4⟩ := hks x hx
    exact absurd h4 (h1 e he)
  · simp [Instr.lookup, run_underlying Tryz.underlying225, MapKept.run_getObj_map hb, hck, MapKept.run_findKey Tryz.underlying65 h1, Result.andThen]

theorem make_run {T k e : Nat} (hT : Tryz.prog.underlying T = some (.map k e)) (n : Int) (w : World) :
    (Instr.makeMap T (some (.int .i64 n))).run Tryz.prog w = .ok (.map (some w.heap.size)) (w.alloc (.map #[] 0)) := by
  simp [Instr.makeMap, run_underlying hT, asInt, Result.andThen, go_sem]
theorem info97 : (Tryz.prog.info? 97).map (fun i => i.zero) = some (some (.agg #[])) := by kernel_rfl

set_option maxRecDepth 100000 in
set_option maxHeartbeats 2000000 in
theorem unordered_any (d B B' n cap cap2 : Nat) (a a2 : Option Addr) (s : Int) (C : Array Value) (l m : List Num) (w : World) (hd : w.heap[d]? = some (.cells (C.setIfInBounds 19 (.int .u64 s)) 71)) (hC : 19 < C.size) (h8 : C[8]? = some (.bool true))
    (hn : l.length = n) (hm : m.length = n) (hn6 : n < 1000000) (ho : w.ownsRow B 20 1 (.slice a n cap) n (l.map fv)) (ho2 : w.ownsRow B' 20 1 (.slice a2 n cap2) n (m.map fv)) (hperm : ∀ x ∈ m, fb x ∈ l.map fb) (hdB : d < B) (hdB' : d < B') :
    Calls Tryz.prog 105 #[.pointer (some ⟨d, 0, none⟩), .slice a n cap, .slice a2 n cap2] w fun e w' => e = .returned (.bool true) ∧
      (∃ s', w'.heap[d]? = some (.cells (C.setIfInBounds 19 (.int .u64 s')) 71)) ∧ Kp [d] w w' := by
  have H := Hid.mk (And.intro hd (And.intro hC (And.intro h8 (And.intro hn (And.intro hm (And.intro ho (And.intro ho2 (And.intro hperm (And.intro hdB hdB')))))))))
  have Hd := Hid.mk (lt_of_heap hd)
  clear hd hC h8 hn hm ho ho2 hperm hdB hdB'
  have hnn : ((n : Int) != (n : Int)) = false := by simp
  have hmm := make_run Tryz.underlying225
  go_enter Tryz.func105, Tryz.ntmps105
  go_wp2_with fail
  clear hmm
  obtain ⟨w1, hw1⟩ : ∃ w1, w1 = w.alloc (.map #[] 0) := ⟨_, rfl⟩
  obtain ⟨g, hg⟩ : ∃ g, g = w.heap.size := ⟨_, rfl⟩
  rw [← hw1, ← hg]
  have hk1 : Kp [] w w1 := by rw [hw1]; exact (Kp.refl _ _).alloc _
  have hs1 : SetOf w1 g [] := ⟨#[], 0, by rw [hw1, hg]; exact heap_alloc_same _ _, by simp, by simp⟩
  have H1 := Hid.mk (And.intro hk1 (And.intro hs1 hg))
  clear hw1 hk1 hs1 hg
  go_loopg [8, 27] n (fun f c vi wr => ∃ (i : Nat) (s' : Int), vi = .int .i64 i ∧ c = .int .i64 i ∧ f = n - i ∧ i ≤ n ∧ wr.heap[d]? = some (.cells (C.setIfInBounds 19 (.int .u64 s')) 71) ∧ Kp [d] w wr ∧ SetOf wr g ((l.take i).map fun x => dg (fb x)))
  case atStart => exact ⟨0, s, rfl, rfl, rfl, Nat.zero_le _, H1.out.1.at H.out.1 (by simp), H1.out.1.mono (by simp), H1.out.2.1⟩
  case round =>
    obtain ⟨i, s', rfl, rfl, hf, hi, hd, hkp, hset⟩ := hrel
    have H2 := Hid.mk (And.intro hf (And.intro hd (And.intro hkp hset)))
    have hc8 : wr.cell? ⟨d, 8, none⟩ = some (.bool true) := by
      rw [blk_cell hd, Array.getElem?_setIfInBounds_ne (by decide)]; exact H.out.2.2.1
    clear hf hd hkp hset
    by_cases hin : i < n
    · obtain ⟨ga, rfl, hg1, hg2, hcs⟩ := own_cells H.out.2.2.2.2.2.1 (by omega)
      obtain ⟨x, hx⟩ : ∃ x, x = l[i]'(by have := H.out.2.2.2.1; omega) := ⟨_, rfl⟩
      have hc1 : wr.cell? ⟨ga, i, none⟩ = some (.iface 87 (.float .f64 (fb x))) := by
        refine H2.out.2.2.1.cell ?_ (by have := H.out.2.2.2.2.2.2.2.2.1; simp; omega)
        rw [hcs i hin, hx]; simp
      have Hx := Hid.mk hx
      clear hcs hx hg1 hg2
      go_wp2_with fail
      obtain ⟨wo, hwo⟩ : ∃ wo : World, wo = wr.drew := ⟨_, rfl⟩
      have Hwo := Hid.mk hwo
      have H3 := Hid.mk (digest_num (fb x) d 19 s' C 71 wr.drew H2.out.2.1 H.out.2.1 true)
      go_still_tail 9, (by kernel_rfl)
      change wpList _ _ _ _ _ wr.drew
      clear hwo
      go_wp2_with fail
      refine H3.out.mono ?_
      rintro e w2 ⟨rfl, hd2, hk2⟩
      have hk2' : Kp [d] wr w2 := (Kp.refl _ wr).drew.trans hk2
      have hgd : g ∉ [d] := by have := Hd.out; have := H1.out.2.2; simp; omega
      obtain ⟨w3, hput, hset3, hk3⟩ := set_put (dg (fb x)) (H2.out.2.2.2.kept hk2' hgd)
      have H4 := Hid.mk (And.intro (hk3.at hd2 (by have := Hd.out; have := H1.out.2.2; simp; omega)) (And.intro ((H2.out.2.2.1.trans hk2').trans' hk3 (fun j hj hjl => by have := H1.out.2.2; simp at hj; omega)) hset3))
      clear hd2 hk2 hk2' hgd hset3 hk3
      go_wp2_with fail
      go_roundg (n - (i + 1))
      case measure => have := H2.out.1; omega
      case rel =>
        refine ⟨i + 1, dg (fb x), by simp, by simp, rfl, by omega, H4.out.1, H4.out.2.1, ?_⟩
        have h1 : i < l.length := by have := H.out.2.2.2.1; omega
        have h2 := H4.out.2.2
        rw [List.take_add_one, List.map_append, List.getElem?_eq_getElem h1]
        rw [Hx.out] at h2
        exact h2
    · have hi8 : i = n := by omega
      subst hi8
      have Hset : Hid (SetOf wr g (l.map fun x => dg (fb x))) := Hid.mk (by
        have h2 := H2.out.2.2.2
        rwa [List.take_of_length_le (by have := H.out.2.2.2.1; omega)] at h2)
      go_wp2_with fail
      clear hc8
      obtain ⟨wo, hwo⟩ : ∃ wo : World, wo = wr := ⟨_, rfl⟩
      have H5 := Hid.mk (And.intro (hwo ▸ H2.out.2.1) (And.intro (hwo ▸ H2.out.2.2.1) (hwo ▸ Hset.out)))
      go_loopg [8, 49] i (fun f c vi wr => ∃ (j : Nat) (s' : Int), vi = .int .i64 j ∧ c = .int .i64 ((i : Int) - j) ∧ f = i - j ∧ j ≤ i ∧ wr.heap[d]? = some (.cells (C.setIfInBounds 19 (.int .u64 s')) 71) ∧ Kp [d] w wr ∧ SetOf wr g (l.map fun x => dg (fb x)))
      case atStart => exact ⟨0, s', rfl, by simp, rfl, Nat.zero_le _, H2.out.2.1, H2.out.2.2.1, Hset.out⟩
      case round =>
        clear H2 Hset hwo
        obtain ⟨j, s', rfl, rfl, hf, hj, hd, hkp, hset⟩ := hrel
        have H2 := Hid.mk (And.intro hf (And.intro hd (And.intro hkp hset)))
        have hc8 : wr.cell? ⟨d, 8, none⟩ = some (.bool true) := by
          rw [blk_cell hd, Array.getElem?_setIfInBounds_ne (by decide)]; exact H.out.2.2.1
        clear hf hd hkp hset
        by_cases hjn : j < i
        · obtain ⟨ga, rfl, hg1, hg2, hcs⟩ := own_cells H.out.2.2.2.2.2.2.1 (by omega)
          obtain ⟨x, hx⟩ : ∃ x, x = m[j]'(by have := H.out.2.2.2.2.1; omega) := ⟨_, rfl⟩
          have hc1 : wr.cell? ⟨ga, j, none⟩ = some (.iface 87 (.float .f64 (fb x))) := by
            refine H2.out.2.2.1.cell ?_ (by have := H.out.2.2.2.2.2.2.2.2.2; simp; omega)
            rw [hcs j hjn, hx]; simp
          have hxm : x ∈ m := by rw [hx]; exact List.getElem_mem _
          have hmem : dg (fb x) ∈ l.map fun x => dg (fb x) := by
            have h1 := H.out.2.2.2.2.2.2.2.1 x hxm
            simp only [List.mem_map] at h1 ⊢
            obtain ⟨y, hy, he⟩ := h1
            exact ⟨y, hy, by rw [he]⟩
          have Hx := Hid.mk hmem
          clear hcs hx hg1 hg2 hxm hmem
          go_wp2_with fail
          have H3 := Hid.mk (digest_num (fb x) d 19 s' C 71 wr.drew H2.out.2.1 H.out.2.1 true)
          go_still_tail 9, (by kernel_rfl)
          change wpList _ _ _ _ _ wr.drew
          go_wp2_with fail
          refine H3.out.mono ?_
          rintro e w2 ⟨rfl, hd2, hk2⟩
          have hk2' : Kp [d] wr w2 := (Kp.refl _ wr).drew.trans hk2
          have hgd : g ∉ [d] := by have := Hd.out; have := H1.out.2.2; simp; omega
          have hset2 := H2.out.2.2.2.kept hk2' hgd
          have hhas := set_has hset2 Hx.out
          have H4 := Hid.mk (And.intro hd2 (And.intro (H2.out.2.2.1.trans hk2') hset2))
          clear hd2 hk2 hk2' hgd hset2
          go_wp2_with fail
          go_roundg (i - (j + 1))
          case measure => have := H2.out.1; omega
          case rel =>
            have hk9 : Kp [] w2 (w2.alloc (Obj.cells #[] 97)) := (Kp.refl _ _).alloc _
            refine ⟨j + 1, dg (fb x), by simp, ?_, rfl, by omega, hk9.at H4.out.1 (by simp), H4.out.2.1.alloc _, H4.out.2.2.kept hk9 (by simp)⟩
            congr 1
            simp
            omega
        · have hj8 : j = i := by omega
          subst hj8
          go_wp2_with fail
          go_ret
          exact ⟨by simp, ⟨_, H2.out.2.1⟩, H2.out.2.2.1⟩
end Go.Proofs.YtpigmadopflfkaaGreatDoor
