/- pointer.appendIndex at an index below ten: the buffer gets a slash and a digit. -/
import Derived.Test.YtpigmadopflfkaaGreatDoorObB
import Derived.Room.AppendFits
namespace Go.Proofs.YtpigmadopflfkaaGreatDoor
open Go.RowKit Go.BigFrame
/-- append of a text of one byte onto a buffer. -/
theorem wpList_appS {ops : Array Oper} {rest : List Oper} {o : Oper} {act : Act} {Q : Exit → Act → World → Prop} {w : World} (hgd : o.guard = none) (s x : Operand)
    (ho : o.op = .call { callee := .builtin .append, args := #[s, x], argTypes := #[23, 9] })
    (B : Nat) (a : Option Addr) (n cap : Nat) (cs : List Nat) (hs : act.eval s = .slice a n cap) (hown : Buf B w a n cap cs)
    (u : Nat) (hu : u < 256) (hx : act.eval x = .string (txt [u]))
    (h63 : n < 1000000000000) (hbase : B ≤ w.heap.size)
    (h : ∀ (a' : Option Addr) (cap' : Nat) (w' : World), Buf B w' a' (n + 1) cap' (cs ++ [u]) → Kp (rowOf a) w w' → Grew w w' a cap a' cap' →
      wpList Tryz.prog ops Q rest (act.put o.dst (.slice a' (n + 1) cap')) w') : wpList Tryz.prog ops Q (o :: rest) act w := by
  obtain ⟨i0, hi0, hz0, hz1, hz2⟩ := info_parts info5
  have hsz : (txt [u]).size = 1 := txt_size _
  have hsc : Lib.strCells (txt [u]) = [.int .u8 u] := by
    simp [Lib.strCells, txt]
    omega
  by_cases hroom : n + 1 ≤ cap
  · refine Lib.wpList_append_fits_string w hgd s x 23 9 ho B 5 i0 Tryz.underlying23 Tryz.underlying9 hi0 hz1 a n cap (cs.map dig) hs hown (txt [u]) hx (by omega) (by rw [hsz]; exact hroom) ?_
    intro w' hw' hgr
    rw [hsz, hsc] at hw'
    rw [hsz]
    refine h _ _ w' (buf_snoc hw') ?_ (.inl ⟨rfl, rfl⟩)
    exact (Kp.ofGrown hgr).mono (by intro i hi _; simp at hi; exact own_row hi)
  · cases a with
    | none =>
      obtain ⟨rfl, rfl, hcs⟩ : n = 0 ∧ cap = 0 ∧ cs = [] := by
        have hl := hown.1
        rcases hown.2 with ⟨h1, _⟩ | ⟨g', cap', cur, hv, _⟩
        · cases h1; exact ⟨rfl, rfl, List.eq_nil_of_length_eq_zero (by simpa using hl)⟩
        · cases hv
      subst hcs
      refine Lib.wpList_append_own_string w hgd s x 23 9 ho w.heap.size 5 i0 Tryz.underlying23 Tryz.underlying9 hi0 hz0 hz1 hz2 (.slice none 0 0) 0 [] hs (World.ownsRow_nil w _ 5 1) (txt [u]) hx (by rw [hsz]; decide) (by rw [hsz]; decide) (Nat.le_refl _) ?_
      intro v' w' hw' hgr _
      rw [hsz, hsc] at hw'
      obtain ⟨a', cap', rfl⟩ := own_shape hw'
      have hk : Kp [] w w' := Kp.ofGrown hgr
      refine h a' cap' w' ?_ (hk.mono (by simp)) (.inr ⟨hk, ?_⟩)
      · exact buf_snoc (cs := []) (own_mono hw' hbase)
      · intro g2 hg2
        have h1 : Buf w.heap.size w' a' (0 + 1) cap' ([] ++ [u]) := buf_snoc (cs := []) hw'
        exact (rowOf_mem h1 g2 hg2).1
    | some b =>
      refine wpList_plain hgd fun K hK => ?_
      have hl : cs.length = n := by simpa using hown.1
      have hr := Lib.run_append_grow_string (P := Tryz.prog) w 23 9 o.type 5 i0 (.int .u8 0) Tryz.underlying23 Tryz.underlying9 hi0 hz0 b n cap (cs.map dig) (by rw [hz1]; simp [hl]) (fun j v hj => by
        rcases hown.2 with ⟨h1, _⟩ | ⟨g', cap', cur, hv, _⟩
        · cases h1
        · cases hv
          exact hown.cells (g := g') rfl j v hj) (txt [u]) (by rw [hsz]; omega) (by rw [hsz]; omega) (by rw [hsz, hz2]; exact growslice_fits (by omega) (by omega))
      rw [hsz, hsc] at hr
      have hge := grownCap_ge w (n + 1) cap 5
      have hcm : grownCap w (n + 1) cap 5 ≤ maxLen := grownCap_le_maxLen w (n + 1) cap 5 (by unfold maxLen; omega)
      unfold Oper.wp execOp
      simp only [ho, resolve, invoke, builtin, Sem.run_bind, Sem.run_pure, Result.andThen_ok, List.map_toArray, List.map_cons, List.map_nil, hs, hx, hr]
      have hk : Kp [] w (w.drew.alloc (.cells ((cs.map dig).toArray ++ [Value.int .u8 u].toArray ++ Builtin.zeroCells (Value.int .u8 0).cells (grownCap w (n + 1) cap 5 - (n + 1))) 5)) := ((Kp.refl _ _).drew).alloc _
      have hown' : (w.drew.alloc (.cells ((cs.map dig).toArray ++ [Value.int .u8 u].toArray ++ Builtin.zeroCells (Value.int .u8 0).cells (grownCap w (n + 1) cap 5 - (n + 1))) 5)).ownsRow w.heap.size 5 1 (.slice (some ⟨w.heap.size, 0, none⟩) (n + 1) (grownCap w (n + 1) cap 5)) (n + 1) (cs.map dig ++ [.int .u8 u]) := by
        have hlen : (cs.map dig ++ [Value.int .u8 u]).length = (n + 1) * 1 := by simp [hl]
        refine ⟨hlen, .inr ⟨w.heap.size, _, _, rfl, Nat.le_refl _, heap_alloc_new w.drew _, hge, hcm, ?_, ?_⟩⟩
        · have hz1 : (Value.int IntKind.u8 0).cells.size = 1 := rfl
          simp only [Array.size_append, List.size_toArray, size_zeroCells, hz1, List.length_map, hl, List.length_cons, List.length_nil]
          omega
        · simp only [Array.toList_append, List.append_assoc]
          rw [← List.append_assoc, ← hlen]
          exact List.take_left
      exact hK _ _ (h _ _ _ (buf_snoc (own_mono hown' hbase)) (hk.mono (by simp)) (.inr ⟨hk, by intro g hg; simp [rowOf] at hg; omega⟩))

theorem slice_small (i : Nat) (hi : i < 10) (w : World) : (Instr.slice 9 (Value.string { data := #[48, 49, 50, 51, 52, 53, 54, 55, 56, 57, 97, 98, 99, 100, 101, 102, 103, 104, 105, 106, 107, 108, 109, 110, 111, 112, 113, 114, 115, 116, 117, 118, 119, 120, 121, 122] }) (some (Value.int IntKind.i64 i)) (some (Value.int IntKind.i64 ((i : Int) + 1))) none).run Tryz.prog w = .ok (.string (txt [48 + i])) w := by
  obtain rfl | rfl | rfl | rfl | rfl | rfl | rfl | rfl | rfl | rfl : i = 0 ∨ i = 1 ∨ i = 2 ∨ i = 3 ∨ i = 4 ∨ i = 5 ∨ i = 6 ∨ i = 7 ∨ i = 8 ∨ i = 9 := by omega
  all_goals kernel_rfl
set_option maxRecDepth 100000 in
set_option maxHeartbeats 1000000 in
theorem small_any (i : Nat) (hi : i < 10) (w : World) : Calls Tryz.prog 210 #[.int .i64 i] w fun e w' => e = .returned (.string (txt [48 + i])) ∧ w = w' := by
  have h1 : ((i : Int) < 10) := by omega
  have hsl := slice_small i hi w
  have e5 : IntKind.i64.wrap ((i : Int) + 1) = (i : Int) + 1 := IntWalk.i64_in _ (by omega)
  go_enter Tryz.func210, Tryz.ntmps210
  go_wp2_with fail
  go_ret
  exact ⟨rfl, rfl⟩
/-- What an append of one byte in a callee leaves. -/
def App1 (B : Nat) (w w' : World) (a : Option Addr) (n cap : Nat) (cs : List Nat) (u : Nat) (a' : Option Addr) (cap' : Nat) : Prop :=
  Buf B w' a' (n + 1) cap' (cs ++ [u]) ∧ Kp (rowOf a) w w' ∧ Grew w w' a cap a' cap'
set_option maxRecDepth 100000 in
set_option maxHeartbeats 1000000 in
theorem appendUint_any (B i n cap : Nat) (a : Option Addr) (cs : List Nat) (w : World) (hi : i < 10) (hb : Buf B w a n cap cs) (hn : n < 1000000) (hB : B ≤ w.heap.size) :
    Calls Tryz.prog 188 #[.slice a n cap, .int .u64 i, .int .i64 10] w fun e w' => ∃ a' cap', e = .returned (.slice a' (n + 1) cap') ∧ App1 B w w' a n cap cs (48 + i) a' cap' := by
  have h1 : ((i : Int) < 100) := by omega
  have e5 : IntKind.i64.wrap (i : Int) = (i : Int) := IntWalk.i64_in _ (by omega)
  have H := Hid.mk hb
  clear hb
  go_enter Tryz.func188, Tryz.ntmps188
  go_wp2_with fail
  refine (small_any i hi w).mono ?_
  rintro e w' ⟨rfl, rfl⟩
  go_wp2_with (at_builtin; refine wpList_appS rfl _ _ rfl B a n cap cs rfl H.out (48 + i) (by omega) rfl (by omega) hB ?_; intro a2 c2 w2 hown2 hgr2 hgrew; have Hw2 := Hid.mk (And.intro hown2 (And.intro hgr2 hgrew)); clear hgr2 hown2 hgrew)
  go_ret
  exact ⟨a2, c2, rfl, Hw2.out⟩
set_option maxRecDepth 100000 in
set_option maxHeartbeats 1000000 in
theorem appendInt_in (B i n cap : Nat) (a : Option Addr) (cs : List Nat) (w : World) (hi : i < 10) (hb : Buf B w a n cap cs) (hn : n < 1000000) (hB : B ≤ w.heap.size) :
    Calls Tryz.prog 153 #[.slice a n cap, .int .i64 i, .int .i64 10] w fun e w' => ∃ a' cap', e = .returned (.slice a' (n + 1) cap') ∧ App1 B w w' a n cap cs (48 + i) a' cap' := by
  have h1 : ¬ ((i : Int) < 0) := by omega
  have e5 : IntKind.u64.wrap (i : Int) = (i : Int) := by unfold IntKind.wrap; simp [IntKind.signed, IntKind.bits]; omega
  have H := Hid.mk (appendUint_any B i n cap a cs w hi hb hn hB)
  clear hb
  go_enter Tryz.func153, Tryz.ntmps153
  go_wp2_with fail
  refine H.out.mono ?_
  rintro e w' ⟨a2, c2, rfl, h2⟩
  have H2 := Hid.mk h2
  clear h2
  go_wp2_with fail
  go_ret
  exact ⟨a2, c2, rfl, H2.out⟩
set_option maxRecDepth 100000 in
set_option maxHeartbeats 1000000 in
theorem appendInt_any (B i n cap : Nat) (a : Option Addr) (cs : List Nat) (w : World) (hi : i < 10) (hb : Buf B w a n cap cs) (hn : n < 1000000) (hB : B ≤ w.heap.size) :
    Calls Tryz.prog 100 #[.slice a n cap, .int .i64 i, .int .i64 10] w fun e w' => ∃ a' cap', e = .returned (.slice a' (n + 1) cap') ∧ App1 B w w' a n cap cs (48 + i) a' cap' := by
  have H := Hid.mk (appendInt_in B i n cap a cs w hi hb hn hB)
  clear hb
  go_enter Tryz.func100, Tryz.ntmps100
  go_wp2_with fail
  refine H.out.mono ?_
  rintro e w' ⟨a2, c2, rfl, h2⟩
  have H2 := Hid.mk h2
  clear h2
  go_wp2_with fail
  go_ret
  exact ⟨a2, c2, rfl, H2.out⟩

set_option maxRecDepth 100000 in
set_option maxHeartbeats 1000000 in
theorem appendIndex_any (B p i n cap : Nat) (a : Option Addr) (cs : List Nat) (key : ByteArray) (idx : Int) (pk : ByteArray) (pi sep : Int) (w : World) (hi : i < 10) (hp : Ptr w p a n cap key idx pk pi sep) (hb : Buf B w a n cap cs)
    (hpa : p ∉ rowOf a) (hB : B ≤ w.heap.size) (hn : n < 900000) :
    Calls Tryz.prog 69 #[.pointer (some ⟨p, 0, none⟩), .int .i64 i] w fun e w' => e = .returned (.tuple #[]) ∧ ∃ a' cap', Ptr w' p a' (n + 1 + 1) cap' .empty i pk pi sep ∧ Young B p w w' a n cap cs a' (n + 1 + 1) cap' (cs ++ [47] ++ [48 + i]) := by
  have H := Hid.mk (And.intro hp (And.intro hb (And.intro hpa hB)))
  have hc := blk_cell hp
  have hf := blk_frozen hp
  have Hpl := Hid.mk (lt_of_heap hp)
  clear hp hb hpa hB
  go_enter Tryz.func69, Tryz.ntmps69
  go_wp2_with (at_builtin; refine wpList_appB rfl _ _ rfl B a n cap cs rfl (H.out.2.1.alloc _) w.heap.size 1 47 rfl (by simp) (by omega) (by have := H.out.2.2.2; simp; omega) ?_; intro a2 c2 w2 hown2 hgr2 hgrew; have Hw2 := Hid.mk (And.intro hgr2 (And.intro hown2 hgrew)); clear hgr2 hown2 hgrew; have hc2 := blk_cell (Hw2.out.1.at (heap_alloc_lt Hpl.out _ |>.trans H.out.1) H.out.2.2.1); have hf2 := blk_frozen (Hw2.out.1.at (heap_alloc_lt Hpl.out _ |>.trans H.out.1) H.out.2.2.1))
  obtain ⟨w3, hw3⟩ : ∃ w3, w3 = w2.setCell ⟨p, 0, none⟩ (.slice a2 (n + 1) c2) := ⟨_, rfl⟩
  rw [← hw3]
  have h1 := Hw2.out.1.at (heap_alloc_lt Hpl.out _ |>.trans H.out.1) H.out.2.2.1
  have hp3 : Ptr w3 p a2 (n + 1) c2 key idx pk pi sep := by
    rw [hw3]
    unfold Ptr
    rw [heap_setCell_same h1 _ _]
    rfl
  have hk3 : Kp [p] w2 w3 := by
    rw [hw3]
    exact (Kp.refl _ _).setCell _ (.inl (by simp))
  have hy : Young B p w w3 a n cap cs a2 (n + 1) c2 (cs ++ [47]) :=
    Young.one H.out.2.1 H.out.2.2.1 Hpl.out ((Kp.refl _ _).alloc _) Hw2.out.2.1 Hw2.out.1 Hw2.out.2.2 hk3
  have Hy := Hid.mk (And.intro hp3 hy)
  have hpl3 := lt_of_heap hp3
  have hc3 := blk_cell hp3
  have hf3 := blk_frozen hp3
  have Hpl3 := Hid.mk hpl3
  clear hw3 h1 hp3 hk3 hy hc hf hc2 hf2 hpl3
  refine (appendInt_any B i (n + 1) c2 a2 _ w3 hi Hy.out.2.1 (by omega) (by have := H.out.2.2.2; have := Hy.out.2.2.2.1.size; omega)).mono ?_
  rintro e w4 ⟨a4, c4, rfl, h4⟩
  have hp4 := h4.2.1.at Hy.out.1 Hy.out.2.2.1
  have hc4 := blk_cell hp4
  have hf4 := blk_frozen hp4
  have H4 := Hid.mk (And.intro h4 hp4)
  clear h4 hp4 hc3 hf3
  go_wp2_with fail
  refine bodyPost_end (results_none rfl _ _ _) rfl ⟨rfl, a4, c4, ?_, ?_⟩
  · unfold Ptr
    rw [heap_setCell_same (heap_setCell_same (heap_setCell_same H4.out.2 _ _) _ _)]
    rfl
  · exact Hy.out.2.trans (Young.one Hy.out.2.1 Hy.out.2.2.1 Hpl3.out (Kp.refl _ _) H4.out.1.1 H4.out.1.2.1 H4.out.1.2.2 ((((Kp.refl _ _).setCell _ (.inl (by simp))).setCell _ (.inl (by simp))).setCell _ (.inl (by simp))))
end Go.Proofs.YtpigmadopflfkaaGreatDoor
