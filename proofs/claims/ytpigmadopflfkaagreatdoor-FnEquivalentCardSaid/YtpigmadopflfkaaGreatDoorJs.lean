/- ParseFloat of lightstrconv at a text of digits; the plain documents that the law speaks of, and their texts. Condition: at most three digits. -/
import Derived.Test.YtpigmadopflfkaaGreatDoorFlA
namespace Go.Proofs.YtpigmadopflfkaaGreatDoor
open Go.RowKit Go.BigFrame

theorem toList_ne {s : ByteArray} (h : 0 < s.size) : ¬ s.toList = [] := by
  rw [ByteArray.toList_eq]
  intro e
  have h2 : s.data.toList.length = s.size := rfl
  rw [e] at h2
  simp at h2
  omega
theorem toList_isEmpty {s : ByteArray} (h : 0 < s.size) : s.toList.isEmpty = false := by
  cases hh : s.toList with
  | nil => exact absurd hh (toList_ne h)
  | cons a l => rfl

set_option maxRecDepth 100000 in
set_option maxHeartbeats 1000000 in
theorem parse_pos (cs : List Nat) (w : World) (hl : cs.length < 1000) (hne : 0 < cs.length) (h9 : ∀ d ∈ cs, d < 10) (r : Nat) (hr : pfF cs = some r) (hr2 : r < 9223372036854775808) :
    Calls Tryz.prog 94 #[.string (dstr cs), .int .i64 64] w fun e w' => e = .returned (.tuple #[.float .f64 r, .nilIface]) ∧ Kp [] w w' := by
  obtain ⟨s, hsd⟩ : ∃ s, s = dstr cs := ⟨_, rfl⟩
  have hsz : 0 < s.size := by rw [hsd, dstr_size]; exact hne
  have hsz2 : s.size < 1000 := by rw [hsd, dstr_size]; exact hl
  have hget : ∀ (i : Nat) (hi : i < s.size), 48 ≤ s[i].toNat ∧ s[i].toNat < 58 := by
    subst hsd
    intro i hi
    have h1 := dstr_get h9 hi
    have h2 := getD_lt h9 i
    omega
  have hread := fun W hB => read_digits (w.heap.size) cs W hB hl hne h9
  rw [← hsd] at hread
  have Hread := Hid.mk hread
  have Hget := Hid.mk hget
  obtain ⟨g1, g2⟩ := hget 0 hsz
  have t1 : ((s[0].toNat : Int) == 43) = false := by simp; omega
  have t2 : ((s[0].toNat : Int) == 45) = false := by simp; omega
  rw [← hsd]
  have Hr := Hid.mk hr
  have hu := underscores_no s
  have Hu := Hid.mk (fun W => hu W (by omega) (fun i hi => by have := hget i hi; simp; omega))
  clear hu hread hget hsd hl hne h9 hr
  have he1 := toList_ne hsz
  have he2 := toList_isEmpty hsz
  go_enter Tryz.func94, Tryz.ntmps94
  go_wp2_with (go_at_call 141; refine (fold_no s _ _ hsz (by decide) (by omega) (by decide)).mono ?_; rintro e w' ⟨rfl, rfl⟩)
  refine (formOf_64 _).mono ?_
  rintro e w1 ⟨rfl, hk1⟩
  have Hk1 := Hid.mk hk1
  clear hk1
  go_wp2_with (go_at_call 141; refine (fold_no s _ _ hsz (by decide) (by omega) (by decide)).mono ?_; rintro e w' ⟨rfl, rfl⟩)
  obtain ⟨W1, hW1⟩ : ∃ W1, W1 = w1.alloc (Obj.cells #[.int .i64 52, .int .i64 11, .int .i64 (-1023)] 188) := ⟨_, rfl⟩
  rw [← hW1]
  have hb1 : W1.heap[w1.heap.size]? = some (.cells #[.int .i64 52, .int .i64 11, .int .i64 (-1023)] 188) := by rw [hW1]; exact heap_alloc_same _ _
  have hk1 : Kp [] w W1 := by rw [hW1]; exact Hk1.out.alloc _
  have hs1 := lt_of_heap hb1
  clear hW1
  refine (Hread.out W1 hk1.size).mono ?_
  rintro e w2 ⟨b, rfl, hd, hk2, hbb⟩
  have Hd := Hid.mk hd
  have Hk2 := Hid.mk hk2
  have hb2 := hk2.at hb1 (by simp)
  have hc2 := blk_cell hb2
  have Hb2 := Hid.mk hb2
  clear hd hk2 hb1 hb2
  go_wp2_with fail
  refine (Hu.out _).mono ?_
  rintro e w' ⟨rfl, rfl⟩
  go_wp2_with fail
  refine (bits_all w.heap.size b _ _ _ (Nat.le_trans hk1.size Hk2.out.size) Hd.out r Hr.out).mono ?_
  rintro e w3 ⟨rfl, hk3⟩
  have hne : b ≠ w1.heap.size := by omega
  have hb3 := hk3.at Hb2.out (by simpa using fun e => hne e.symm)
  have hc3 := blk_cell hb3
  have Hk3 := Hid.mk hk3
  clear hk3 hb3 hc2
  go_wp2_with fail
  rw [show bits BinOp.or IntKind.u64 0 (r : Int) = (r : Int) by rw [show (0 : Int) = ((0 : Nat) : Int) from rfl, bits_or_nat 0 r (by decide) (by omega), Nat.zero_or]]
  refine (float_any r _).mono ?_
  rintro e w4 ⟨rfl, hk4⟩
  have Hk4 := Hid.mk hk4
  clear hk4
  go_wp2_with fail
  go_ret2
  exact ⟨rfl, (hk1.trans Hk2.out).trans' (Hk3.out.trans' Hk4.out (by simp)) (by have := hk1.size; simp; omega)⟩
/-- A minus ahead of digits. -/
def nstr (cs : List Nat) : ByteArray := ⟨(45 :: cs.map fun d => UInt8.ofNat (48 + d)).toArray⟩
theorem nstr_size (cs : List Nat) : (nstr cs).size = (dstr cs).size + 1 := by simp [nstr, dstr, ByteArray.size]
theorem nstr_get0 (cs : List Nat) (h : 0 < (nstr cs).size) : ((nstr cs)[0]).toNat = 45 := rfl
theorem nstr_tail (cs : List Nat) : (nstr cs).extract 1 (nstr cs).size = dstr cs := by
  apply ByteArray.ext
  apply Array.ext'
  rw [ByteArray.data_extract, Array.toList_extract]
  simp [nstr, dstr, ByteArray.size]
  rw [List.take_of_length_le (by simp)]
theorem nstr_no95 {cs : List Nat} (h9 : ∀ d ∈ cs, d < 10) {i : Nat} (h : i < (nstr cs).size) : ((((nstr cs)[i]).toNat : Int) == 95) = false := by
  cases i with
  | zero => rfl
  | succ i =>
    have hi : i < (dstr cs).size := by rw [nstr_size] at h; omega
    have e : (nstr cs)[i + 1] = (dstr cs)[i] := by
      rfl
    have h1 := dstr_get h9 hi
    have h2 := getD_lt h9 i
    rw [e]
    simp
    omega

set_option maxRecDepth 100000 in
set_option maxHeartbeats 1000000 in
theorem parse_neg (cs : List Nat) (w : World) (hl : cs.length < 1000) (hne : 0 < cs.length) (h9 : ∀ d ∈ cs, d < 10) (r : Nat) (hr : pfF cs = some r) (hr2 : r < 9223372036854775808) :
    Calls Tryz.prog 94 #[.string (nstr cs), .int .i64 64] w fun e w' => e = .returned (.tuple #[.float .f64 (9223372036854775808 + r), .nilIface]) ∧ Kp [] w w' := by
  obtain ⟨t, htd⟩ : ∃ t, t = dstr cs := ⟨_, rfl⟩
  obtain ⟨s, hsd⟩ : ∃ s, s = nstr cs := ⟨_, rfl⟩
  have htz : 0 < t.size := by rw [htd, dstr_size]; exact hne
  have hsz2 : s.size = t.size + 1 := by rw [hsd, htd]; exact nstr_size cs
  have hsz : 0 < s.size := by omega
  have htz2 : t.size < 1000 := by rw [htd, dstr_size]; exact hl
  have hs0 : s[0].toNat = 45 := by subst hsd; exact nstr_get0 cs _
  have hsx : s.extract 1 s.size = t := by rw [hsd, htd]; exact nstr_tail cs
  have hget : ∀ (i : Nat) (hi : i < t.size), 48 ≤ t[i].toNat ∧ t[i].toNat < 58 := by
    subst htd
    intro i hi
    have h1 := dstr_get h9 hi
    have h2 := getD_lt h9 i
    omega
  have hsget : ∀ (i : Nat) (hi : i < s.size), ((s[i].toNat : Int) == 95) = false := by
    subst hsd
    intro i hi
    exact nstr_no95 h9 hi
  have hread := fun W hB => read_digits (w.heap.size) cs W hB hl hne h9
  rw [← htd] at hread
  have Hread := Hid.mk hread
  have Hget := Hid.mk hget
  obtain ⟨g1, g2⟩ := hget 0 htz
  rw [← hsd]
  have Hr := Hid.mk hr
  have hu := underscores_no s
  have Hu := Hid.mk (fun W => hu W (by omega) hsget)
  clear hu hread hget hsd htd hl hne h9 hr hsget
  have hs2 : (s.size : Int) = (t.size : Int) + 1 := by omega
  have Hs2 := Hid.mk (And.intro hs2 hsz2)
  have hs3 : 1 < s.size := by omega
  have hs4 : s.size < 2000 := by omega
  clear hs2 hsz2
  have he1 := toList_ne hsz
  have he2 := toList_isEmpty hsz
  go_enter Tryz.func94, Tryz.ntmps94
  go_wp2_with (go_at_call 141; refine (fold_no s _ _ hsz (by decide) (by omega) (by decide)).mono ?_; rintro e w' ⟨rfl, rfl⟩)
  go_quiet (fail)
  go_wp2_with fail
  refine (formOf_64 _).mono ?_
  rintro e w1 ⟨rfl, hk1⟩
  have Hk1 := Hid.mk ((Kp.refl [] w).drewN nq |>.trans hk1)
  clear hk1
  go_wp2_with (go_at_call 141; refine (fold_no t _ _ htz (by decide) (by omega) (by decide)).mono ?_; rintro e w' ⟨rfl, rfl⟩)
  obtain ⟨W1, hW1⟩ : ∃ W1, W1 = w1.alloc (Obj.cells #[.int .i64 52, .int .i64 11, .int .i64 (-1023)] 188) := ⟨_, rfl⟩
  rw [← hW1]
  have hb1 : W1.heap[w1.heap.size]? = some (.cells #[.int .i64 52, .int .i64 11, .int .i64 (-1023)] 188) := by rw [hW1]; exact heap_alloc_same _ _
  have hk1 : Kp [] w W1 := by rw [hW1]; exact Hk1.out.alloc _
  have hs1 := lt_of_heap hb1
  clear hW1
  refine (Hread.out W1 hk1.size).mono ?_
  rintro e w2 ⟨b, rfl, hd, hk2, hbb⟩
  have Hd := Hid.mk hd
  have Hk2 := Hid.mk hk2
  have hb2 := hk2.at hb1 (by simp)
  have hc2 := blk_cell hb2
  have Hb2 := Hid.mk hb2
  clear hd hk2 hb1 hb2
  go_wp2_with fail
  refine (Hu.out _).mono ?_
  rintro e w' ⟨rfl, rfl⟩
  go_wp2_with fail
  refine (bits_all w.heap.size b _ _ _ (Nat.le_trans hk1.size Hk2.out.size) Hd.out r Hr.out).mono ?_
  rintro e w3 ⟨rfl, hk3⟩
  have hne : b ≠ w1.heap.size := by omega
  have hb3 := hk3.at Hb2.out (by simpa using fun e => hne e.symm)
  have hc3 := blk_cell hb3
  have Hk3 := Hid.mk hk3
  clear hk3 hb3 hc2
  go_wp2_with fail
  have hor : bits BinOp.or IntKind.u64 9223372036854775808 (r : Int) = ((9223372036854775808 + r : Nat) : Int) := by
    have h1 := bits_or_nat 9223372036854775808 r (by decide) (by omega)
    have h2 := Nat.two_pow_add_eq_or_of_lt (b := r) (i := 63) (by omega) 1
    have h3 : (2 : Nat) ^ 63 * 1 = 9223372036854775808 := rfl
    rw [h3] at h2
    rw [h2]
    exact h1
  rw [hor]
  refine (float_any (9223372036854775808 + r) _).mono ?_
  rintro e w4 ⟨rfl, hk4⟩
  have Hk4 := Hid.mk hk4
  clear hk4 hor
  go_wp2_with fail
  go_ret2
  exact ⟨rfl, (hk1.trans Hk2.out).trans' (Hk3.out.trans' Hk4.out (by simp)) (by have := hk1.size; simp; omega)⟩
end Go.Proofs.YtpigmadopflfkaaGreatDoor

namespace Go.Proofs.YtpigmadopflfkaaGreatDoor
open Go.RowKit

/-- A number's text: whether it has a minus, and its digits. -/
abbrev Num := Bool × List Nat
def ncodes (x : Num) : List Nat := (if x.1 then [45] else []) ++ x.2.map (48 + ·)
structure NumOk (x : Num) : Prop where
  pos : 0 < x.2.length
  len : x.2.length ≤ 3
  nine : ∀ d ∈ x.2, d < 10
  lead : x.2 = [0] ∨ x.2.getD 0 0 ≠ 0
def encL : List Num → List Nat
  | [] => []
  | [x] => ncodes x
  | x :: y :: r => ncodes x ++ 44 :: encL (y :: r)
/-- The documents that the statement speaks of. -/
inductive J where
  | num (x : Num)
  | arr (l : List Num)
  | obj1 (k : Nat) (a : J)
  | obj2 (k : Nat) (a : J) (m : Nat) (b : J)
def enc : J → List Nat
  | .num x => ncodes x
  | .arr l => 91 :: (encL l ++ [93])
  | .obj1 k a => 123 :: 34 :: k :: 34 :: 58 :: (enc a ++ [125])
  | .obj2 k a m b => 123 :: 34 :: k :: 34 :: 58 :: (enc a ++ 44 :: 34 :: m :: 34 :: 58 :: (enc b ++ [125]))
def keyOk (k : Nat) : Prop := 93 < k ∧ k < 123
def JOk : J → Prop
  | .num x => NumOk x
  | .arr l => ∀ x ∈ l, NumOk x
  | .obj1 k a => keyOk k ∧ JOk a
  | .obj2 k a m b => keyOk k ∧ keyOk m ∧ k < m ∧ JOk a ∧ JOk b
def hgt : J → Nat
  | .num _ => 0
  | .arr _ => 1
  | .obj1 _ a => hgt a + 1
  | .obj2 _ a _ b => hgt a + hgt b + 1

/-- These codes stand in the text from i on. -/
def At (s : ByteArray) (i : Nat) (cs : List Nat) : Prop := ∀ k (hk : k < cs.length), ∃ h : i + k < s.size, (s[i + k]'h).toNat = cs[k]
theorem At.nil (s : ByteArray) (i : Nat) : At s i [] := fun k hk => absurd hk (by simp)
theorem At.append {s : ByteArray} {i : Nat} {a b : List Nat} (h : At s i (a ++ b)) : At s i a ∧ At s (i + a.length) b := by
  constructor
  · intro k hk
    obtain ⟨h1, h2⟩ := h k (by simp; omega)
    exact ⟨h1, by rw [h2, List.getElem_append_left]⟩
  · intro k hk
    obtain ⟨h1, h2⟩ := h (a.length + k) (by simp; omega)
    refine ⟨by omega, ?_⟩
    have e : i + a.length + k = i + (a.length + k) := by omega
    simp only [e]
    rw [h2, List.getElem_append_right (by omega)]
    simp
theorem At.cons {s : ByteArray} {i c : Nat} {cs : List Nat} (h : At s i (c :: cs)) : (∃ h : i < s.size, (s[i]'h).toNat = c) ∧ At s (i + 1) cs := by
  obtain ⟨h1, h2⟩ := h.append (a := [c]) (b := cs)
  refine ⟨?_, h2⟩
  obtain ⟨h3, h4⟩ := h1 0 (by simp)
  exact ⟨by simpa using h3, h4⟩
theorem At.of_append {s : ByteArray} {i : Nat} {a b : List Nat} (h1 : At s i a) (h2 : At s (i + a.length) b) : At s i (a ++ b) := by
  intro k hk
  by_cases hka : k < a.length
  · obtain ⟨h3, h4⟩ := h1 k hka
    exact ⟨h3, by rw [h4, List.getElem_append_left hka]⟩
  · obtain ⟨h3, h4⟩ := h2 (k - a.length) (by simp at hk; omega)
    have e : i + a.length + (k - a.length) = i + k := by omega
    simp only [e] at h3 h4
    exact ⟨h3, by rw [h4, List.getElem_append_right (by omega)]⟩
theorem At.size {s : ByteArray} {i : Nat} {cs : List Nat} (h : At s i cs) (hi : i ≤ s.size) : i + cs.length ≤ s.size := by
  by_cases hc : cs.length = 0
  · omega
  · obtain ⟨h1, _⟩ := h (cs.length - 1) (by omega)
    omega
/-- What stands at i, if anything, ends a value. -/
def Stop (s : ByteArray) (i : Nat) : Prop := ∀ h : i < s.size, (s[i]'h).toNat = 44 ∨ (s[i]'h).toNat = 93 ∨ (s[i]'h).toNat = 125
/-- A text out of codes. -/
def txt (cs : List Nat) : ByteArray := ⟨(cs.map UInt8.ofNat).toArray⟩
theorem txt_size (cs : List Nat) : (txt cs).size = cs.length := by simp [txt, ByteArray.size]
theorem txt_get {cs : List Nat} (h9 : ∀ d ∈ cs, d < 256) {i : Nat} (h : i < (txt cs).size) : ((txt cs)[i]).toNat = cs.getD i 0 := by
  have hi : i < cs.length := by rw [txt_size] at h; exact h
  have h1 : (txt cs)[i] = UInt8.ofNat cs[i] := by
    show (cs.map UInt8.ofNat)[i]'(by simpa using hi) = _
    simp
  have h2 := h9 _ (List.getElem_mem hi)
  rw [h1, List.getD_eq_getElem?_getD, List.getElem?_eq_getElem hi]
  simp
  omega
theorem txt_at {cs : List Nat} (h9 : ∀ d ∈ cs, d < 256) : At (txt cs) 0 cs := by
  intro k hk
  have hs : 0 + k < (txt cs).size := by rw [txt_size]; omega
  refine ⟨hs, ?_⟩
  rw [txt_get h9 hs]
  simp [List.getD_eq_getElem?_getD, hk]
theorem dstr_txt (ds : List Nat) : dstr ds = txt (ds.map (48 + ·)) := by
  simp [dstr, txt]
theorem nstr_txt (ds : List Nat) : nstr ds = txt (45 :: ds.map (48 + ·)) := by
  simp [nstr, txt]
/-- The part of a text where some codes stand. -/
theorem At.extract {s : ByteArray} {i : Nat} {cs : List Nat} (h : At s i cs) (hi : i ≤ s.size) : s.extract i (i + cs.length) = txt cs := by
  have hsz := h.size hi
  apply ByteArray.ext
  rw [ByteArray.data_extract]
  apply Array.ext
  · simp [txt]
    have : s.data.size = s.size := rfl
    omega
  · intro k h1 h2
    have hk : k < cs.length := by simpa [txt] using h2
    obtain ⟨h3, h4⟩ := h k hk
    rw [Array.getElem_extract]
    have e : s.data[i + k]'h3 = s[i + k]'h3 := rfl
    rw [e]
    apply UInt8.toNat_inj.1
    rw [h4]
    have hlt := (s[i + k]'h3).toNat_lt
    simp [txt]
    omega
def nstrOf (x : Num) : ByteArray := if x.1 then nstr x.2 else dstr x.2
theorem nstrOf_txt (x : Num) : nstrOf x = txt (ncodes x) := by
  obtain ⟨b, ds⟩ := x
  cases b
  · simp [nstrOf, ncodes, dstr_txt]
  · simp [nstrOf, ncodes, nstr_txt]
end Go.Proofs.YtpigmadopflfkaaGreatDoor
