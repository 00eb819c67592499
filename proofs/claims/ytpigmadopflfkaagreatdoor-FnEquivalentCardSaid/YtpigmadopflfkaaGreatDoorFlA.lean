/- The reading of a number of digits by lightstrconv computes what its mirror function says. Condition: at most a few digits. -/
import Derived.Test.YtpigmadopflfkaaGreatDoorDecE
namespace Go.Proofs.YtpigmadopflfkaaGreatDoor
open Go.RowKit Go.BigFrame

/-- Digits as a text. -/
def dstr (cs : List Nat) : ByteArray := ⟨(cs.map fun d => UInt8.ofNat (48 + d)).toArray⟩
theorem dstr_size (cs : List Nat) : (dstr cs).size = cs.length := by simp [dstr, ByteArray.size]
theorem dstr_get {cs : List Nat} (h9 : ∀ d ∈ cs, d < 10) {i : Nat} (h : i < (dstr cs).size) : ((dstr cs)[i]).toNat = 48 + cs.getD i 0 := by
  have hi : i < cs.length := by rw [dstr_size] at h; exact h
  have h1 : (dstr cs)[i] = UInt8.ofNat (48 + cs[i]) := by
    show ((cs.map fun d => UInt8.ofNat (48 + d)).toArray)[i]'_ = _
    simp
  have h2 := h9 _ (List.getElem_mem hi)
  rw [h1, List.getD_eq_getElem?_getD, List.getElem?_eq_getElem hi]
  simp
  omega

theorem or32 {c : Nat} (h1 : 48 ≤ c) (h2 : c < 58) : bits .or .u8 (c : Int) 32 = (c : Int) := by
  obtain ⟨k, rfl⟩ : ∃ k, c = 48 + k := ⟨c - 48, by omega⟩
  have hk : k < 10 := by omega
  clear h1 h2
  have : ∀ j : Fin 10, bits .or .u8 (((48 + j.val : Nat)) : Int) 32 = ((48 + j.val : Nat) : Int) := by decide
  exact this ⟨k, hk⟩

set_option maxHeartbeats 400000 in
theorem lower_any (c : Nat) (w : World) (h1 : 48 ≤ c) (h2 : c < 58) : Calls Tryz.prog 183 #[.int .u8 c] w fun e w' => e = .returned (.int .u8 c) ∧ w = w' := by
  have h := or32 h1 h2
  go_enter Tryz.func183, Tryz.ntmps183
  go_wp2
  go_ret
  exact ⟨rfl, rfl⟩

set_option maxHeartbeats 400000 in
theorem fold_no (s wd : ByteArray) (w : World) (h0 : 0 < s.size) (hw0 : 0 < wd.size) (h1 : (s[0].toNat : Int) < 65) (h2 : 97 ≤ (wd[0].toNat : Int)) :
    Calls Tryz.prog 141 #[.string s, .string wd] w fun e w' => e = .returned (.bool false) ∧ w = w' := by
  by_cases hl : s.size = wd.size
  · have e1 : ((s.size : Int) != (wd.size : Int)) = false := by rw [hl]; simp
    have e2 : ((s[0].toNat : Int) != (wd[0].toNat : Int)) = true := by
      rw [bne_iff_ne]; omega
    clear hl
    go_enter Tryz.func141, Tryz.ntmps141
    go_wp2
    apply wp_loop_once
    go_wp2
    go_ret
    exact ⟨rfl, rfl⟩
  · have e1 : ((s.size : Int) != (wd.size : Int)) = true := by rw [bne_iff_ne]; omega
    go_enter Tryz.func141, Tryz.ntmps141
    go_wp2
    go_ret
    exact ⟨rfl, rfl⟩

set_option maxHeartbeats 400000 in
theorem underscores_no (s : ByteArray) (w : World) (hs : s.size < 1000000) (h : ∀ (i : Nat) (hi : i < s.size), ((s[i].toNat : Int) == 95) = false) :
    Calls Tryz.prog 146 #[.string s] w fun e w' => e = .returned (.bool true) ∧ w = w' := by
  have H := Hid.mk h
  clear h
  go_enter Tryz.func146, Tryz.ntmps146
  go_wp2
  go_loop [3] (fun i => ∃ k : Nat, k ≤ s.size ∧ i = .int .i64 k) (fun i => s.size - (intOf i).toNat)
  case atStart => exact ⟨0, by omega, rfl⟩
  case round =>
    obtain ⟨k, hk, rfl⟩ := hrel
    by_cases hlt : k < s.size
    · have hx := H.out k hlt
      go_wp2
      go_round
      case rel => exact ⟨k + 1, by omega, rfl⟩
      case measure => simp [intOf]; omega
    · go_wp2
      go_ret
      exact ⟨rfl, rfl⟩

set_option maxHeartbeats 400000 in
theorem formOf_64 (w : World) :
    Calls Tryz.prog 122 #[.int .i64 64] w fun e w' => e = .returned (.agg #[.int .i64 52, .int .i64 11, .int .i64 (-1023)]) ∧ Kp [] w w' := by
  go_enter Tryz.func122, Tryz.ntmps122
  go_wp2
  refine bodyPost_ret (v := .agg #[.int .i64 52, .int .i64 11, .int .i64 (-1023)]) (by simp [results, Tryz.results122, go_sem]) rfl ⟨rfl, (Kp.refl _ _).alloc _⟩

theorem frombits_run (b : Int) (w : World) : (callFunc 182 #[.int .u64 b]).run Tryz.prog w = .ok (.value (.float .f64 b.toNat)) w := by kernel_rfl
theorem bits_run (b : Nat) (w : World) : (callFunc 121 #[.float .f64 b]).run Tryz.prog w = .ok (.value (.int .u64 b)) w := by kernel_rfl

set_option maxRecDepth 100000 in
set_option maxHeartbeats 400000 in
theorem float_any (b : Nat) (w : World) :
    Calls Tryz.prog 144 #[.agg #[.int .i64 52, .int .i64 11, .int .i64 (-1023)], .int .u64 b] w fun e w' => e = .returned (.float .f64 b) ∧ Kp [] w w' := by
  have hfb := frombits_run (b : Int)
  go_enter Tryz.func144, Tryz.ntmps144
  go_wp2
  go_ret
  exact ⟨rfl, (Kp.refl _ _).alloc _⟩

def readA (cs : List Nat) : List Nat := cs.foldl (fun acc d => if acc ≠ [] ∨ d ≠ 0 then acc ++ [d] else acc) []
theorem readA_snoc (cs : List Nat) (d : Nat) : readA (cs ++ [d]) = if readA cs ≠ [] ∨ d ≠ 0 then readA cs ++ [d] else readA cs := by
  unfold readA; rw [List.foldl_append]; rfl
theorem readA_take {cs : List Nat} {i : Nat} (h : i < cs.length) : readA (cs.take (i + 1)) = if readA (cs.take i) ≠ [] ∨ cs.getD i 0 ≠ 0 then readA (cs.take i) ++ [cs.getD i 0] else readA (cs.take i) := by
  rw [List.take_succ_eq_append_getElem h, readA_snoc, List.getD_eq_getElem?_getD, List.getElem?_eq_getElem h]; rfl
theorem readA_len (cs : List Nat) (i : Nat) : (readA (cs.take i)).length ≤ i := by
  induction i with
  | zero => exact Nat.le_refl _
  | succ i ih =>
    by_cases h : i < cs.length
    · rw [readA_take h]
      split
      · simp; omega
      · omega
    · rw [List.take_of_length_le (by omega)]; rw [List.take_of_length_le (by omega)] at ih; omega

theorem own_block_ne {w : World} {base e size : Nat} {v : Value} {n : Nat} {xs : List Value} {b : Nat} (h : w.ownsRow base e size v n xs) (hb : b < base) : v.ownBlock ≠ some b := by
  intro e
  have := (h.lt b e).1
  omega
theorem Dec.mono {B B' : Nat} {w : World} {b : Nat} {ds : List Nat} {dp : Int} (h : Dec B w b ds dp) (hB : B' ≤ B) : Dec B' w b ds dp := by
  obtain ⟨a, cap, hb, ho, hne, h9⟩ := h
  exact ⟨a, cap, hb, own_mono ho hB, hne, h9⟩
theorem Dec.appended {B : Nat} {w2 : World} {b : Nat} {u v : Value} {a2 : Option Addr} {c2 n : Nat} {L : List Nat} {x : Nat} {q : Int} (hb : w2.heap[b]? = some (.cells #[u, v] 195)) (hn : n = L.length)
    (ho : w2.ownsRow B 5 1 (.slice a2 (n + 1) c2) (n + 1) (L.map dig ++ [.int .u8 x])) (hB : b < B) (h9 : ∀ d ∈ L, d < 10) (hx : x < 10) :
    Dec B ((w2.setCell ⟨b, 0, none⟩ (.slice a2 (n + 1) c2)).setCell ⟨b, 1, none⟩ (.int .i64 q)) b (L ++ [x]) q := by
  subst hn
  have hne : ∀ k, (Value.slice a2 (L.length + 1) c2).ownBlock = some k → k ≠ b := fun k hk => by have := (ho.lt k hk).1; omega
  refine ⟨a2, c2, ?_, ?_, ?_, mem_snoc h9 hx⟩
  · rw [heap_setCell_same (heap_setCell_same hb 0 _) 1 _]; simp
  · have := own_setCell (own_setCell ho hne (Value.slice a2 (L.length + 1) c2) (p := ⟨b, 0, none⟩)) hne (Value.int .i64 q) (p := ⟨b, 1, none⟩)
    simpa [dig] using this
  · intro g hg; exact hne g.block (by rw [hg]; rfl)

def ReadQ (B : Nat) (cs : List Nat) (w w' : World) (e : Ending) : Prop := ∃ b, e = .returned (.tuple #[.pointer (some ⟨b, 0, none⟩), .bool true]) ∧
      Dec B w' b (trimZ (readA cs)) (if trimZ (readA cs) = [] then 0 else ((readA cs).length : Int)) ∧ Kp [] w w' ∧ w.heap.size ≤ b

set_option maxRecDepth 100000 in
set_option maxHeartbeats 1000000 in
theorem read_digits (B : Nat) (cs : List Nat) (w : World) (hB : B ≤ w.heap.size) (hl : cs.length < 1000) (hne : 0 < cs.length) (h9 : ∀ d ∈ cs, d < 10) :
    Calls Tryz.prog 145 #[.string (dstr cs)] w fun e w' => ReadQ B cs w w' e := by
  obtain ⟨s, hsd⟩ : ∃ s, s = dstr cs := ⟨_, rfl⟩
  rw [← hsd]
  have hsz : s.size = cs.length := by rw [hsd, dstr_size]
  have hget : ∀ (i : Nat) (hi : i < s.size), ∃ x : Nat, s[i].toNat = 48 + x ∧ x < 10 ∧ x = cs.getD i 0 := by
    subst hsd
    intro i hi
    exact ⟨_, dstr_get h9 hi, getD_lt h9 i, rfl⟩
  have Hget := Hid.mk (And.intro hget hsz)
  rw [← hsz] at hl hne
  clear hsd hsz hget
  obtain ⟨x0, hx0, hx09, hx0x⟩ := Hget.out.1 0 hne
  have Hx0 := Hid.mk hx0x
  clear hx0x
  go_enter Tryz.func145, Tryz.ntmps145
  go_upto_region 2 with (fail)
  go_cut [5] from 17 to 30 (fun h wc => h = .bool false ∧ wc = w.alloc (Obj.cells #[Value.slice none 0 0, Value.int IntKind.i64 0] 195))
  case first =>
    by_cases h2 : s.size < 2
    · go_wp2_with fail
      go_meet
      case rel => exact ⟨rfl, rfl⟩
    · by_cases h0 : x0 = 0
      · subst h0
        obtain ⟨x1, hx1, hx19, hx1x⟩ := Hget.out.1 1 (by omega)
        clear hx1x
        have hx120 : ((48 + x1 : Nat) : Int) ≠ 120 := by omega
        have hlow : ((48 : Int) + (x1 : Int)) = ((48 + x1 : Nat) : Int) := by omega
        clear hlow
        go_wp2_with (go_at_call 183; rw [show (48 : Int) + (x1 : Int) = ((48 + x1 : Nat) : Int) by simp]; refine (lower_any (48 + x1) _ (by omega) (by omega)).mono ?_; rintro e w' ⟨rfl, rfl⟩)
        go_meet
        case rel => exact ⟨by rw [show ((48 : Int) + (x1 : Int) == 120) = false by simp; omega], rfl⟩
      · have h1 : ((48 + (x0 : Int)) == 48) = false := by simp; omega
        go_wp2_with fail
        go_meet
        case rel => exact ⟨rfl, rfl⟩
  case rest =>
    obtain ⟨rfl, rfl⟩ := hcut
    go_wp2_with fail
    go_loopg [8, 9, 10, 11] s.size (fun f sm dot ex i wr => dot = .bool false ∧ ex = .int .i64 0 ∧ ∃ (k : Nat), i = .int .i64 k ∧ k + f = s.size ∧ sm = .bool (decide (0 < k)) ∧ Dec (w.heap.size + 1) wr w.heap.size (readA (cs.take k)) (readA (cs.take k)).length ∧ Kp [] w wr)
    case atStart =>
      refine ⟨rfl, rfl, 0, rfl, by omega, rfl, ⟨none, 0, heap_alloc_same _ _, World.ownsRow_nil _ _ _ _, by simp, by simp [readA]⟩, (Kp.refl _ _).alloc _⟩
    case round =>
      obtain ⟨rfl, rfl, k, rfl, hkf, rfl, hd, hkp⟩ := hrel
      obtain ⟨a, cap, hc, hf, hcap, hcap2, hbl, hcells⟩ := hd.opened
      have Hd := Hid.mk hd
      have Hkf := Hid.mk hkf
      have hk1 : k ≤ s.size := by omega
      clear hcells hd hkf
      by_cases hlt : k < s.size
      · obtain ⟨x, hx, hx9, hxx⟩ := Hget.out.1 k hlt
        have Hxx := Hid.mk hxx
        clear hxx
        have t1 : ((48 + (x : Int)) == 95) = false := by simp; omega
        have t2 : ((48 + (x : Int)) == 46) = false := by simp; omega
        have t3 : ((x : Int) == 16) = false := by simp; omega
        have t5 : (48 : Int) + (x : Int) - 48 = (x : Int) := by omega
        obtain ⟨L, hL⟩ : ∃ L, L = readA (cs.take k) := ⟨_, rfl⟩
        have hkc : k < cs.length := by have := Hget.out.2; omega
        have hst := readA_take hkc
        rw [← Hxx.out, ← hL] at hst
        have hLk : L.length ≤ k := by rw [hL]; exact readA_len _ _
        rw [← hL] at hc Hd
        obtain ⟨n, hn⟩ : ∃ n, n = L.length := ⟨_, rfl⟩
        rw [← hn] at hc hLk
        have HL := Hid.mk (And.intro hst hn)
        clear hL hst hn hcap
        by_cases hgo : 0 < n ∨ x ≠ 0
        · have hLs : readA (cs.take (k + 1)) = L ++ [x] := by
            rw [HL.out.1, if_pos]
            rcases hgo with h | h
            · left; rintro rfl; have := HL.out.2; simp at this; omega
            · exact .inr h
          have HLs := Hid.mk hLs
          clear hLs
          obtain ⟨a0, cap0, hb0, ho0, hne0, h90⟩ := Hd.out
          have e0 : a0 = a ∧ cap0 = cap := by
            have h1 := hc 0
            rw [blk_cell hb0 0] at h1
            have h2 : (some (Value.slice a0 L.length cap0) : Option Value) = some (Value.slice a n cap) := h1
            simp only [Option.some.injEq, Value.slice.injEq] at h2
            exact ⟨h2.1, h2.2.2⟩
          obtain ⟨rfl, rfl⟩ := e0
          rw [← HL.out.2] at ho0 hb0
          have Ho := Hid.mk ho0
          have Hb := Hid.mk (And.intro hb0 (And.intro hne0 h90))
          clear ho0 hb0 hne0 h90
          by_cases hn0 : n = 0
          · subst hn0
            have t4 : ((x : Int) != 0) = true := by rw [bne_iff_ne]; omega
            have Hrow := Hid.mk (own_block_ne Ho.out (Nat.lt_succ_self _))
            go_wp2_with (at_builtin; refine wpList_app1 rfl _ _ rfl (w.heap.size + 1) a0 0 cap0 _ rfl (Ho.out.alloc _) wr.heap.size 1 (x : Int) rfl (by simp) (by omega) (by simp; omega) ?_; intro a2 c2 w2 hown2 hgr2; have Hw2 := Hid.mk (And.intro hgr2 hown2); clear hgr2 hown2; have hc2 := blk_cell (app_at Hw2.out.1 Hb.out.1 Hrow.out); have hf2 := blk_frozen (app_at Hw2.out.1 Hb.out.1 Hrow.out))
            go_roundg (s.size - (k + 1))
            case measure => have := Hkf.out; omega
            case rel =>
              refine ⟨rfl, rfl, k + 1, rfl, by have := Hkf.out; omega, by simp, ?_, (((hkp.alloc _).grown Hw2.out.1 (fun j hj => .inr (by have := (Ho.out.lt j hj).1; omega))).setCell _ (.inr (Nat.le_refl _))).setCell _ (.inr (Nat.le_refl _))⟩
              rw [HLs.out]
              have := Dec.appended (q := ((L ++ [x]).length : Int)) (app_at Hw2.out.1 Hb.out.1 Hrow.out) HL.out.2 Hw2.out.2 (Nat.lt_succ_self _) Hb.out.2.2 hx9
              have h1 : L = [] := List.eq_nil_of_length_eq_zero HL.out.2.symm
              subst h1
              exact this
          · have hn1 : 0 < n := by omega
            have Hrow := Hid.mk (own_block_ne Ho.out (Nat.lt_succ_self _))
            go_wp2_with (at_builtin; refine wpList_app1 rfl _ _ rfl (w.heap.size + 1) a0 n cap0 _ rfl (Ho.out.alloc _) wr.heap.size 1 (x : Int) rfl (by simp) (by omega) (by simp; omega) ?_; intro a2 c2 w2 hown2 hgr2; have Hw2 := Hid.mk (And.intro hgr2 hown2); clear hgr2 hown2; have hc2 := blk_cell (app_at Hw2.out.1 Hb.out.1 Hrow.out); have hf2 := blk_frozen (app_at Hw2.out.1 Hb.out.1 Hrow.out))
            go_roundg (s.size - (k + 1))
            case measure => have := Hkf.out; omega
            case rel =>
              refine ⟨rfl, rfl, k + 1, rfl, by have := Hkf.out; omega, by simp, ?_, (((hkp.alloc _).grown Hw2.out.1 (fun j hj => .inr (by have := (Ho.out.lt j hj).1; omega))).setCell _ (.inr (Nat.le_refl _))).setCell _ (.inr (Nat.le_refl _))⟩
              rw [HLs.out]
              have := Dec.appended (q := ((L ++ [x]).length : Int)) (app_at Hw2.out.1 Hb.out.1 Hrow.out) HL.out.2 Hw2.out.2 (Nat.lt_succ_self _) Hb.out.2.2 hx9
              rw [show ((n : Int) + 1) = ((L ++ [x]).length : Int) by simp [HL.out.2]]
              exact this
        · have hx0 : x = 0 := by omega
          obtain rfl : n = 0 := by omega
          subst hx0
          replace hx : s[k].toNat = 48 := hx
          clear t1 t2 t3 t5
          go_wp2_with fail
          go_roundg (s.size - (k + 1))
          case measure => have := Hkf.out; omega
          case rel =>
            have h1 : L = [] := List.eq_nil_of_length_eq_zero HL.out.2.symm
            refine ⟨rfl, rfl, k + 1, rfl, by have := Hkf.out; omega, by simp, ?_, hkp⟩
            have e : readA (cs.take (k + 1)) = L := by rw [HL.out.1, if_neg]; rw [h1]; simp
            rw [e]
            have := Hd.out
            rw [← HL.out.2] at this
            rw [← HL.out.2]
            exact this
      · obtain rfl : k = s.size := by omega
        have hds : readA (cs.take s.size) = readA cs := by rw [List.take_of_length_le (by rw [← Hget.out.2]; omega)]
        rw [hds] at Hd hc
        have hks : decide (0 < s.size) = true := by simpa using hne
        obtain ⟨L, hL⟩ : ∃ L, L = readA cs := ⟨_, rfl⟩
        have HL := Hid.mk hL
        rw [← hL] at Hd hc
        have hLl : L.length < 1000 := by
          have h1 := readA_len cs s.size
          rw [hds, ← hL] at h1
          omega
        clear hL hds hcap
        go_wp2_with fail
        refine (trim_any (w.heap.size + 1) w.heap.size L L.length _ (Hd.out.setPt _)).mono ?_
        rintro e w3 ⟨rfl, hq, hk3⟩
        have Hq := Hid.mk hq
        clear hq
        go_wp2_with fail
        go_ret2
        refine ⟨w.heap.size, rfl, ?_, (hkp.setCell _ (.inr (Nat.le_refl _))).trans' hk3 (by simp), Nat.le_refl _⟩
        rw [← HL.out]
        exact Hq.out.mono (by omega)

/-- What ParseFloat makes of digits without a sign: the float's bits. -/
def pfF (cs : List Nat) : Option Nat := bitsF (trimZ (readA cs)) (if trimZ (readA cs) = [] then 0 else ((readA cs).length : Int))
theorem bitsF_go {ds : List Nat} {dp : Int} {r : Nat} (h : bitsF ds dp = some r) (hne : ds ≠ []) : ¬ dp < -330 ∧ ¬ 310 < dp ∧ ∃ ds1 ds2 dp1 dp2 e1 e2, bitsA 100 ds dp 0 = some (ds1, dp1, e1) ∧ bitsB 100 ds1 dp1 e1 = some (ds2, dp2, e2) ∧ bitsC ds2 dp2 e2 = some r := by
  unfold bitsF at h
  rw [if_neg hne] at h
  split at h
  · cases h
  · rename_i hb
    split at h
    · cases h
    · rename_i ds1 dp1 e1 hA
      split at h
      · cases h
      · rename_i ds2 dp2 e2 hB
        exact ⟨by omega, by omega, _, _, _, _, _, _, hA, hB, h⟩

theorem bits_all (B b : Nat) (ds : List Nat) (dp : Int) (w : World) (hB : B ≤ w.heap.size) (hd : Dec B w b ds dp) (r : Nat) (h : bitsF ds dp = some r) :
    Calls Tryz.prog 148 #[.pointer (some ⟨b, 0, none⟩), .agg #[.int .i64 52, .int .i64 11, .int .i64 (-1023)]] w fun e w' =>
      e = .returned (.tuple #[.int .u64 r, .bool false]) ∧ Kp [b] w w' := by
  by_cases hne : ds = []
  · subst hne
    have : r = 0 := by unfold bitsF at h; simpa using h.symm
    subst this
    exact bits_zero B b dp w hd
  · obtain ⟨h1, h2, ds1, ds2, dp1, dp2, e1, e2, hA, hBB, hC⟩ := bitsF_go h hne
    exact bits_any B b ds dp w hB hne h1 h2 hd ds1 ds2 dp1 dp2 e1 e2 r hA hBB hC
end Go.Proofs.YtpigmadopflfkaaGreatDoor
