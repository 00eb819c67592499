/- lightstrconv.FormatUint and newDecimal at base ten. -/
import Derived.Test.YtpigmadopflfkaaGreatDoorObZ
namespace Go.Proofs.YtpigmadopflfkaaGreatDoor
open Go.RowKit Go.BigFrame
/-- The digits of a whole number, written from behind. -/
def udF : Nat → Nat → List Nat → Option (List Nat)
  | 0, _, _ => none
  | f + 1, n, acc => if acc ≠ [] ∧ n = 0 then some acc else udF f (n / 10) (n % 10 :: acc)
theorem udF_go {f n : Nat} {acc : List Nat} (h : ¬ (acc ≠ [] ∧ n = 0)) : udF (f + 1) n acc = udF f (n / 10) (n % 10 :: acc) := by rw [udF, if_neg h]
theorem udF_end {f n : Nat} {acc : List Nat} (h : acc ≠ [] ∧ n = 0) : udF (f + 1) n acc = some acc := by rw [udF, if_pos h]
theorem set_front (k : Nat) (z d : Value) (L : List Value) : (List.replicate (k + 1) z ++ L).set k d = List.replicate k z ++ d :: L := by
  rw [List.replicate_succ', List.append_assoc, List.set_append_right _ _ (by simp)]
  simp
theorem str_at {w : World} {g o : Nat} {cap : Nat} {cs : List Nat} (h : ∀ i, i < cs.length → w.cell? ⟨g, o + i, none⟩ = some (.int .u8 (cs.getD i 0 : Nat))) :
    (convert 23 9 (.slice (some ⟨g, o, none⟩) cs.length cap)).run Tryz.prog w = .ok (.string (txt cs)) w := by
  have e : txt cs = strOfNums (cs.map fun (n : Nat) => (n : Int)) := by
    simp [txt, strOfNums]
  rw [e]
  refine run_convert_bytes_arg w 23 5 Tryz.underlying23 Tryz.underlying5 g o cs.length cap _ (by simp) ?_ 9 Tryz.underlying9
  intro i hi
  rw [h i hi]
  simp [List.getD_eq_getElem?_getD, hi]
theorem index_small (r : Nat) (hr : r < 10) (w : World) : (Instr.index 9 (Value.string { data := #[48, 49, 50, 51, 52, 53, 54, 55, 56, 57, 97, 98, 99, 100, 101, 102, 103, 104, 105, 106, 107, 108, 109, 110, 111, 112, 113, 114, 115, 116, 117, 118, 119, 120, 121, 122] }) (Value.int IntKind.u64 r)).run Tryz.prog w = .ok (.int .u8 ((48 + r : Nat) : Int)) w := by
  obtain rfl | rfl | rfl | rfl | rfl | rfl | rfl | rfl | rfl | rfl : r = 0 ∨ r = 1 ∨ r = 2 ∨ r = 3 ∨ r = 4 ∨ r = 5 ∨ r = 6 ∨ r = 7 ∨ r = 8 ∨ r = 9 := by omega
  all_goals kernel_rfl
set_option maxRecDepth 100000 in
set_option maxHeartbeats 1000000 in
theorem formatUint_any (n : Nat) (cs : List Nat) (w : World) (hn : n < 18446744073709551616) (hF : udF 40 n [] = some cs) :
    Calls Tryz.prog 123 #[.int .u64 n, .int .i64 10] w fun e w' => e = .returned (.string (txt (cs.map (48 + ·)))) ∧ (∀ d ∈ cs, d < 10) ∧ Kp [] w w' := by
  have HF := Hid.mk (And.intro hF hn)
  clear hF hn
  go_enter Tryz.func123, Tryz.ntmps123
  go_wp2_with fail
  obtain ⟨b, hb⟩ : ∃ b, b = w.heap.size := ⟨_, rfl⟩
  rw [← hb]
  have Hb := Hid.mk hb
  have hk0 : Kp [] w (w.alloc (.cells (List.replicate 64 (Value.int .u8 0)).toArray 232)) := (Kp.refl _ _).alloc _
  have hb0 : (w.alloc (.cells (List.replicate 64 (Value.int .u8 0)).toArray 232)).heap[b]? = some (.cells (List.replicate 64 (Value.int .u8 0)).toArray 232) := by rw [hb]; exact heap_alloc_same _ _
  clear hb
  go_loopg [0, 6] 40 (fun f vn vi wr => ∃ (i n' : Nat) (acc : List Nat) (arr : Array Value), vi = .int .i64 i ∧ vn = .int .u64 n' ∧ i + acc.length = 64 ∧ f + acc.length = 40 ∧ n' < 18446744073709551616 ∧ udF f n' acc = some cs ∧ (∀ d ∈ acc, d < 10) ∧
    wr.heap[b]? = some (.cells arr 232) ∧ arr.toList = List.replicate i (.int .u8 0) ++ acc.map (fun d => .int .u8 ((48 + d : Nat) : Int)) ∧ Kp [] w wr)
  case atStart => exact ⟨64, n, [], _, rfl, rfl, rfl, rfl, HF.out.2, HF.out.1, by simp, hb0, rfl, hk0⟩
  case round =>
    clear hk0 hb0
    obtain ⟨i, n', acc, arr, rfl, rfl, hia, hfa, hn', hF, h9, hbk, harr, hk⟩ := hrel
    have H := Hid.mk (And.intro hn' (And.intro hF (And.intro h9 (And.intro hbk (And.intro harr hk)))))
    clear hn' hF h9 hbk harr hk
    obtain ⟨f', rfl⟩ : ∃ f', gk = f' + 1 := by
      cases gk with
      | zero => have h := H.out.2.1; rw [udF] at h; cases h
      | succ f' => exact ⟨f', rfl⟩
    obtain ⟨k, rfl⟩ : ∃ k, i = k + 1 := ⟨i - 1, by omega⟩
    have hsz : arr.size = 64 := by
      have h := congrArg List.length H.out.2.2.2.2.1
      simp at h
      omega
    obtain ⟨vk, hck⟩ : ∃ vk, wr.cell? ⟨b, k, none⟩ = some vk := ⟨arr[k]'(by omega), by rw [blk_cell H.out.2.2.2.1, Array.getElem?_eq_getElem (by omega)]⟩
    have hfk := blk_frozen H.out.2.2.2.1 k
    have e1 : (n' : Int) / 10 = ((n' / 10 : Nat) : Int) := by omega
    have e2 : (n' : Int).tmod 10 = ((n' % 10 : Nat) : Int) := by rw [Int.tmod_eq_emod_of_nonneg (by omega)]; omega
    have e2' : (n' : Int) % 10 = ((n' % 10 : Nat) : Int) := by omega
    obtain ⟨q, hq⟩ : ∃ q, q = n' / 10 := ⟨_, rfl⟩
    obtain ⟨r, hr⟩ : ∃ r, r = n' % 10 := ⟨_, rfl⟩
    rw [← hq] at e1
    rw [← hr] at e2 e2'
    have hr10 : r < 10 := by omega
    have hix := index_small r hr10
    have Hq := Hid.mk (And.intro hq (And.intro hr hr10))
    have hql := H.out.1
    have e3 : IntKind.u64.wrap (q : Int) = (q : Int) := by rw [IntKind.wrap_u64]; omega
    have e4 : IntKind.u64.wrap (r : Int) = (r : Int) := by rw [IntKind.wrap_u64]; omega
    have e5 : IntKind.i64.wrap (k : Int) = (k : Int) := IntWalk.i64_in _ (by omega)
    have e6 : ((k + 1 : Nat) : Int) = (k : Int) + 1 := by simp
    have e7 : (k : Int) + 1 - 1 = (k : Int) := by omega
    rw [e6]
    have hk64 : (k : Int) < 64 := by omega
    clear hq hr hsz
    by_cases ha : acc = []
    · have hk63 : (k : Int) = 63 := by subst ha; simp at hia; omega
      have t1 : ((k : Int) + 1 == 64) = true := by simp [hk63]
      have Hgo := Hid.mk (show ¬ (acc ≠ [] ∧ n' = 0) by simp [ha])
      clear ha hk63
      go_wp2_with fail
      go_roundg f'
      case measure => omega
      case rel =>
        refine ⟨k, q, r :: acc, arr.setIfInBounds k (.int .u8 ((48 + r : Nat) : Int)), rfl, rfl, by simp; omega, by simp; omega, by have := Hq.out.1; omega, ?_, ?_, ?_, ?_, H.out.2.2.2.2.2.setCell _ (.inr (by have := Hb.out; simp; omega))⟩
        · rw [Hq.out.1, Hq.out.2.1, ← udF_go (Hgo.out)]; exact H.out.2.1
        · intro d hd; simp at hd; rcases hd with rfl | hd
          · exact Hq.out.2.2
          · exact H.out.2.2.1 d hd
        · exact heap_setCell_same H.out.2.2.2.1 k _
        · rw [Array.toList_setIfInBounds, H.out.2.2.2.2.1, set_front]; rfl
    · have hk63 : (k : Int) ≠ 63 := by
        have := List.length_pos_iff.2 ha
        omega
      have t1 : ((k : Int) + 1 == 64) = false := by simp; omega
      by_cases h0 : n' = 0
      · have t2 : ¬ ((0 : Int) < (n' : Int)) := by omega
        have Hgo := Hid.mk (And.intro ha h0)
        have hcs : cs = acc := by
          have h := H.out.2.1
          rw [udF_end ⟨ha, h0⟩] at h
          exact (Option.some.inj h).symm
        have hlen : (cs.map (48 + ·)).length = 64 - (k + 1) := by rw [hcs]; simp; omega
        have hstr := str_at (w := wr) (g := b) (o := k + 1) (cap := 64 - (k + 1)) (cs := cs.map (48 + ·)) (by
          intro i hi
          rw [blk_cell H.out.2.2.2.1, ← Array.getElem?_toList, H.out.2.2.2.2.1, List.getElem?_append_right (by simp)]
          have hi2 : i < acc.length := by rw [hcs] at hi; simpa using hi
          simp [hcs, List.getD_eq_getElem?_getD, hi2])
        have Hlen := Hid.mk hlen
        have hlen2 : (cs.map (48 + ·)).length = cs.length := by simp
        have hal : Tryz.prog.arrayLen 232 = 64 := by kernel_rfl
        have hsl : (Instr.sliceAt 232 (Value.pointer (some ⟨b, 0, none⟩)) (some (Value.int IntKind.i64 ((k : Int) + 1))) none none).run Tryz.prog wr = .ok (.slice (some ⟨b, k + 1, none⟩) (64 - (k + 1)) (64 - (k + 1))) wr := by
          have hn64 : ¬ (64 = k + 1) := by omega
          have hes : (sizeOf (Tryz.prog.elem 232)).run Tryz.prog wr = .ok 1 wr := by kernel_rfl
          have ha : (⟨b, 0, none⟩ : Addr).add (k + 1) = ⟨b, k + 1, none⟩ := by unfold Addr.add; split <;> simp_all
          have ht : ((k : Int) + 1).toNat = k + 1 := by omega
          rw [run_sliceAt_array_l (P := Tryz.prog) wr 232 ⟨b, 0, none⟩ (by kernel_rfl) .i64 ((k : Int) + 1) (by omega) (by rw [hal]; omega), hes, hal]
          simp only [Result.andThen, slicedAt, ht, if_neg hn64, Nat.mul_one, ha]
        have hm : 64 - (k + 1) = 63 - k := by omega
        rw [hm] at hsl
        rw [hlen, hm] at hstr
        clear hm hal hlen2
        have Hcs := Hid.mk hcs
        clear ha h0 hcs hk63 hlen
        go_wp2_with fail
        go_ret
        exact ⟨rfl, by rw [Hcs.out]; exact H.out.2.2.1, H.out.2.2.2.2.2⟩
      · have t2 : (0 : Int) < (n' : Int) := by omega
        have Hgo := Hid.mk (show ¬ (acc ≠ [] ∧ n' = 0) by simp [h0])
        clear ha h0 hk63
        go_wp2_with fail
        go_roundg f'
        case measure => omega
        case rel =>
          refine ⟨k, q, r :: acc, arr.setIfInBounds k (.int .u8 ((48 + r : Nat) : Int)), rfl, rfl, by simp; omega, by simp; omega, by have := Hq.out.1; omega, ?_, ?_, ?_, ?_, H.out.2.2.2.2.2.setCell _ (.inr (by have := Hb.out; simp; omega))⟩
          · rw [Hq.out.1, Hq.out.2.1, ← udF_go (Hgo.out)]; exact H.out.2.1
          · intro d hd; simp at hd; rcases hd with rfl | hd
            · exact Hq.out.2.2
            · exact H.out.2.2.1 d hd
          · exact heap_setCell_same H.out.2.2.2.1 k _
          · rw [Array.toList_setIfInBounds, H.out.2.2.2.2.1, set_front]; rfl

/-- A decimal stays where nothing of bytes is written on. -/
theorem Dec.kept2 {B : Nat} {w w' : World} {b : Nat} {ds : List Nat} {dp : Int} {S : List Nat} (h : Dec B w b ds dp) (hk : Kp S w w') (hb : b ∉ S) (hS : ∀ i ∈ S, ∀ cur, w.heap[i]? ≠ some (.cells cur 5)) : Dec B w' b ds dp := by
  obtain ⟨a, cap, h1, ho, hne, hd9⟩ := h
  refine ⟨a, cap, hk.at h1 hb, hk.owns ho (fun k hk' e => ?_), hne, hd9⟩
  rcases ho.2 with ⟨h2, _⟩ | ⟨g, cap', cur, hv, _, hg, _⟩
  · injection h2 with h3 h4 h5; subst h3; cases hk'
  · cases hv
    have : g = k := by simpa [Value.ownBlock] using hk'
    subst this
    exact hS g e cur hg
theorem Dec.pushed {B : Nat} {w2 : World} {b : Nat} {u : Value} {a2 : Option Addr} {c2 : Nat} {L : List Nat} {x : Nat} {q : Int} (hb : w2.heap[b]? = some (.cells #[u, .int .i64 q] 195))
    (ho : w2.ownsRow B 5 1 (.slice a2 (L.length + 1) c2) (L.length + 1) (L.map dig ++ [.int .u8 x])) (hB : b < B) (h9 : ∀ d ∈ L, d < 10) (hx : x < 10) :
    Dec B (w2.setCell ⟨b, 0, none⟩ (.slice a2 (L.length + 1) c2)) b (L ++ [x]) q := by
  have hne : ∀ k, (Value.slice a2 (L.length + 1) c2).ownBlock = some k → k ≠ b := fun k hk => by have := (ho.lt k hk).1; omega
  refine ⟨a2, c2, ?_, ?_, ?_, mem_snoc h9 hx⟩
  · rw [heap_setCell_same hb 0 _]; simp
  · have := own_setCell ho hne (Value.slice a2 (L.length + 1) c2) (p := ⟨b, 0, none⟩)
    simpa [dig] using this
  · intro g hg; exact hne g.block (by rw [hg]; rfl)
/-- The decimal of these digits, without zeros at the end. -/
def NewQ (B b : Nat) (cs : List Nat) (w : World) : Prop := Dec B w b (trimZ cs) (if trimZ cs = [] then 0 else (cs.length : Nat))
set_option maxRecDepth 100000 in
set_option maxHeartbeats 1000000 in
theorem newDecimal_any (n : Nat) (cs : List Nat) (w : World) (hn : n < 18446744073709551616) (hF : udF 40 n [] = some cs) (hl : cs.length < 1000) :
    Calls Tryz.prog 125 #[.int .u64 n] w fun e w' => ∃ b, e = .returned (.pointer (some ⟨b, 0, none⟩)) ∧ w.heap.size ≤ b ∧ NewQ (w.heap.size + 1) b cs w' ∧ Kp [] w w' := by
  have HF := Hid.mk (formatUint_any n cs · hn hF)
  have Hl := Hid.mk hl
  clear hn hF hl
  go_enter Tryz.func125, Tryz.ntmps125
  go_wp2_with fail
  obtain ⟨b, hb⟩ : ∃ b, b = w.heap.size := ⟨_, rfl⟩
  obtain ⟨w1, hw1⟩ : ∃ w1, w1 = w.alloc (.cells #[.slice none 0 0, .int .i64 0] 195) := ⟨_, rfl⟩
  rw [← hw1, ← hb]
  have hb1 : w1.heap[b]? = some (.cells #[.slice none 0 0, .int .i64 0] 195) := by rw [hw1, hb]; exact heap_alloc_same _ _
  have hk1 : Kp [] w w1 := by rw [hw1]; exact (Kp.refl _ _).alloc _
  have hs1 : w1.heap.size = w.heap.size + 1 := by rw [hw1]; simp
  have H1 := Hid.mk (And.intro hb1 (And.intro hk1 (And.intro hb hs1)))
  clear hw1 hb1 hk1 hb hs1
  refine (HF.out w1).mono ?_
  rintro e w2 ⟨rfl, h9, hk2⟩
  have hb2 := hk2.at H1.out.1 (by simp)
  have hcv := Lib.run_convert_string_bytes (P := Tryz.prog) w2 9 23 5 (txt (cs.map (48 + ·))) Tryz.underlying9 Tryz.underlying23 Tryz.underlying5
  have hby := bytes_byt w2 (cs := cs.map (48 + ·)) (by intro d hd; obtain ⟨q, hq, rfl⟩ := List.mem_map.1 hd; have := h9 q hq; omega)
  have hkb := bytes_kp w2 5 (txt (cs.map (48 + ·)))
  rw [txt_size, List.length_map] at hcv
  have hg2 : w2.heap.size < (Lib.bytesWorld w2 5 (txt (cs.map (48 + ·)))).heap.size := by rw [Lib.bytesWorld_size]; omega
  generalize Lib.bytesWorld w2 5 (txt (cs.map (48 + ·))) = w3 at hcv hby hkb hg2
  generalize grownCap w2 cs.length 0 5 = cap1 at hcv
  obtain ⟨g, hg⟩ : ∃ g, g = w2.heap.size := ⟨_, rfl⟩
  rw [← hg] at hcv hby hg2
  have H3 := Hid.mk (And.intro hby (And.intro (hkb.at hb2 (by simp)) (And.intro ((H1.out.2.1.trans hk2).trans hkb) (And.intro h9 (And.intro hg hk2)))))
  have hgs : w.heap.size + 1 ≤ g := by have := H1.out.2.2.2; have := hk2.size; omega
  clear hby hb2 hkb h9 hk2 hg
  go_wp2_with fail
  clear hcv
  go_loopg [10] cs.length (fun f vi wr => ∃ i : Nat, vi = .int .i64 i ∧ f + i = cs.length ∧ Dec w3.heap.size wr b (cs.take i) 0 ∧ Kp [b] w3 wr)
  case atStart => exact ⟨0, rfl, by omega, ⟨none, 0, H3.out.2.1, ⟨rfl, .inl ⟨rfl, rfl⟩⟩, (fun g h => by cases h), by simp⟩, Kp.refl _ _⟩
  case round =>
    obtain ⟨i, rfl, hfi, hd, hk⟩ := hrel
    have H4 := Hid.mk (And.intro hd hk)
    clear hd hk
    by_cases hin : i < cs.length
    · have hbne : g ≠ b := by have := H1.out.2.2.1; omega
      have hc := H4.out.2.cell (H3.out.1 i (by simpa using hin)) (by simpa using hbne)
      obtain ⟨x, hxd⟩ : ∃ x, x = cs[i] := ⟨_, rfl⟩
      have hx10 : x < 10 := by rw [hxd]; exact H3.out.2.2.2.1 _ (List.getElem_mem hin)
      have e1 : (cs.map (48 + ·)).getD i 0 = 48 + x := by simp [List.getD_eq_getElem?_getD, hin, hxd]
      rw [e1, show ((48 + x : Nat) : Int) = 48 + (x : Int) by simp] at hc
      have htk : cs.take (i + 1) = cs.take i ++ [x] := by rw [List.take_add_one, List.getElem?_eq_getElem hin, hxd]; rfl
      obtain ⟨a0, cap0, hb0, ho0, hne0, h90⟩ := H4.out.1
      have hil : (cs.take i).length = i := by rw [List.length_take]; omega
      rw [hil] at hb0 ho0
      have hcb := blk_cell hb0
      have hfb := blk_frozen hb0
      have Ho := Hid.mk (And.intro ho0 (And.intro hb0 (And.intro hne0 (And.intro h90 (And.intro htk hx10)))))
      have hlt : (i : Int) < (cs.length : Int) := by omega
      have e5 : IntKind.i64.wrap ((i : Int) + 1) = (i : Int) + 1 := IntWalk.i64_in _ (by have := Hl.out; omega)
      have e6 : (48 : Int) + (x : Int) - 48 = (x : Int) := by omega
      have e7 : IntKind.u8.wrap (x : Int) = (x : Int) := by rw [IntKind.wrap_u8]; omega
      have Hrow := Hid.mk (own_ne9 Ho.out.1 Ho.out.2.1 (by intro cur e; cases e))
      have Hbl := Hid.mk (lt_of_heap hb0)
      clear hxd e1 htk hil hb0 ho0 hne0 h90
      go_wp2_with (at_builtin; refine wpList_app1 rfl _ _ rfl w3.heap.size a0 i cap0 _ rfl (Ho.out.1.alloc _) wr.heap.size 1 (x : Int) rfl (by simp) (by have := Hl.out; omega) (by have := H4.out.2.size; simp; omega) ?_; intro a2 c2 w5 hown2 hgr2; have Hw2 := Hid.mk (And.intro hgr2 hown2); clear hgr2 hown2; have hc2 := blk_cell (app_at Hw2.out.1 Ho.out.2.1 Hrow.out); have hf2 := blk_frozen (app_at Hw2.out.1 Ho.out.2.1 Hrow.out))
      rw [show (i : Int) + 1 = ((i + 1 : Nat) : Int) by simp]
      go_roundg (cs.length - (i + 1))
      case measure => omega
      case rel =>
        have hbl2 : b < w3.heap.size := lt_of_heap H3.out.2.1
        have hil : (cs.take i).length = i := by rw [List.length_take]; omega
        refine ⟨i + 1, rfl, by omega, ?_, ((H4.out.2.alloc _).grown Hw2.out.1 (fun j hj => .inr ?_)).setCell _ (.inl (by simp))⟩
        · rw [Ho.out.2.2.2.2.1]
          have := Dec.pushed (L := cs.take i) (x := x) (app_at Hw2.out.1 Ho.out.2.1 Hrow.out) (by rw [hil]; exact Hw2.out.2) hbl2 Ho.out.2.2.2.1 Ho.out.2.2.2.2.2
          rwa [hil] at this
        · exact (Ho.out.1.lt j hj).1
    · obtain rfl : i = cs.length := by omega
      have hlt : ¬ (cs.length : Int) < (cs.length : Int) := by omega
      rw [List.take_of_length_le (Nat.le_refl _)] at H4
      obtain ⟨a0, cap0, hb0, ho0, hne0, h90⟩ := H4.out.1
      have hcb := blk_cell hb0
      have hfb := blk_frozen hb0
      clear hb0 ho0 hne0 h90
      go_wp2_with fail
      refine (trim_any w3.heap.size b cs cs.length _ (H4.out.1.setPt _)).mono ?_
      rintro e w6 ⟨rfl, hdt, hkt⟩
      have H6 := Hid.mk (And.intro hdt hkt)
      clear hdt hkt
      go_wp2_with fail
      go_ret
      have hk6 : Kp [b] w3 w6 := (H4.out.2.setCell _ (.inl (by simp))).trans H6.out.2
      have hB : w.heap.size + 1 ≤ w3.heap.size := by have h1 := lt_of_heap H3.out.2.1; have h2 := H1.out.2.2.1; omega
      have hd6 : NewQ (w.heap.size + 1) b cs w6 := H6.out.1.mono hB
      refine ⟨b, rfl, by have := H1.out.2.2.1; omega, hd6, H3.out.2.2.1.trans' hk6 (fun j hj hjl => by have := H1.out.2.2.1; simp at hj; omega)⟩
end Go.Proofs.YtpigmadopflfkaaGreatDoor
