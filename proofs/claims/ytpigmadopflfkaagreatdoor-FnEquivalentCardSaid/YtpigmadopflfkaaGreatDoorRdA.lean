/- The reading of names and of the next byte in a text of JSON. Condition: it is the text of a plain document. -/
import Derived.Test.YtpigmadopflfkaaGreatDoorScC
import Derived.Laws.BytesArg
import Derived.StillTailTactics
namespace Go.Proofs.YtpigmadopflfkaaGreatDoor
open Go.RowKit Go.BigFrame

/-- string(b) of an owned row of bytes. -/
theorem str_own {w : World} {B n cap : Nat} {a : Option Addr} {cs : List Nat} (h : w.ownsRow B 5 1 (.slice a n cap) n (cs.map dig)) :
    ∀ dst, Tryz.prog.underlying dst = some .string → (convert 23 dst (.slice a n cap)).run Tryz.prog w = .ok (.string (txt cs)) w := by
  intro dst hd
  have hl : cs.length = n := by simpa using h.1
  by_cases hn : 0 < n
  · obtain ⟨g, rfl, hg, hg2, hcells⟩ := own_some h hn
    have e : txt cs = strOfNums (cs.map fun (n : Nat) => (n : Int)) := by
      simp [txt, strOfNums]
    rw [e]
    refine run_convert_bytes_arg w 23 5 Tryz.underlying23 Tryz.underlying5 g 0 n cap _ (by simpa using hl) ?_ dst hd
    intro i hi
    rw [Nat.zero_add]
    refine hcells i _ ?_
    simp [List.getD_eq_getElem?_getD, show i < cs.length by omega]
  · obtain rfl : n = 0 := by omega
    obtain rfl : cs = [] := List.length_eq_zero_iff.1 hl
    rcases h.2 with ⟨h1, _⟩ | ⟨g, cap', cur, hv, _⟩
    · cases h1
      exact run_convert_bytes_nil w 23 5 Tryz.underlying23 Tryz.underlying5 _ _ dst hd
    · cases hv
      refine run_convert_bytes_arg w 23 5 Tryz.underlying23 Tryz.underlying5 g 0 0 cap [] rfl ?_ dst hd
      intro i hi
      omega

theorem decode_any (s : ByteArray) (k : Nat) (w : World) (h : ∃ h : 0 < s.size, (s[0]'h).toNat = k) (hk : k < 128) :
    Calls Tryz.prog 82 #[.string s] w fun e w' => e = .returned (.tuple #[.int .i32 k, .int .i64 1]) ∧ w = w' := by
  obtain ⟨h1, h2⟩ := h
  have he1 := toList_ne h1
  have he2 := toList_isEmpty h1
  have hk2 : (k : Int) < 128 := by omega
  go_enter Tryz.func82, Tryz.ntmps82
  go_wp2_with fail
  go_ret2
  refine ⟨?_, rfl⟩
  congr 3

/-- .. appended to an owned row. -/
theorem appendRune_any (B : Nat) (a : Option Addr) (n cap : Nat) (xs : List Value) (k : Nat) (w : World) (hk : k < 128) (hB : B ≤ w.heap.size) (hn : n < 1000000)
    (ho : w.ownsRow B 5 1 (.slice a n cap) n xs) :
    Calls Tryz.prog 83 #[.slice a n cap, .int .i32 k] w fun e w' => ∃ a' cap', e = .returned (.slice a' (n + 1) cap') ∧ w'.ownsRow B 5 1 (.slice a' (n + 1) cap') (n + 1) (xs ++ [dig k]) ∧
      Kp (Value.slice a n cap).ownBlock.toList w w' := by
  have hk2 : (k : Int) ≤ 127 := by omega
  have Ho := Hid.mk ho
  clear ho
  go_enter Tryz.func83, Tryz.ntmps83
  go_wp2_with (at_builtin; refine wpList_app1 rfl _ _ rfl B a n cap _ rfl (Ho.out.alloc _) w.heap.size 1 (k : Int) rfl (by simp) (by omega) (by simp; omega) ?_; intro a2 c2 w2 hown2 hgr2; have Hw2 := Hid.mk (And.intro hgr2 hown2); clear hgr2 hown2)
  go_ret
  exact ⟨a2, c2, rfl, Hw2.out.2, ((Kp.refl _ _).alloc _).grown Hw2.out.1 (fun k hk => .inl (by simp [hk]))⟩

/-- The reader in block b: its text and where it stands. -/
def Rdr (w : World) (b : Nat) (s : ByteArray) (i : Nat) : Prop := w.heap[b]? = some (.cells #[.string s, .int .i64 i, .bool false, .nilIface] 127)
theorem Rdr.setAt {w : World} {b : Nat} {s : ByteArray} {i : Nat} (h : Rdr w b s i) (j : Int) {k : Nat} (hj : j = k) : Rdr (w.setCell ⟨b, 1, none⟩ (.int .i64 j)) b s k := by
  subst hj
  unfold Rdr at *
  rw [heap_setCell_same h]; rfl
theorem Rdr.kept {w w' : World} {b : Nat} {s : ByteArray} {i : Nat} {S : List Nat} (h : Rdr w b s i) (hk : Kp S w w') (hn : b ∉ S) : Rdr w' b s i := hk.at h hn

set_option maxRecDepth 100000 in
set_option maxHeartbeats 1000000 in
theorem text_any (s : ByteArray) (k i b : Nat) (w : World) (hs : s.size < 1000000) (hk : keyOk k) (hat : At s i [34, k, 34]) (hr : Rdr w b s i) :
    Calls Tryz.prog 93 #[.pointer (some ⟨b, 0, none⟩)] w fun e w' => e = .returned (.string (txt [k])) ∧ Rdr w' b s (i + 3) ∧ Kp [b] w w' := by
  obtain ⟨⟨h1, h1'⟩, h⟩ := hat.cons
  obtain ⟨j, hj⟩ : ∃ j, j = i + 1 := ⟨_, rfl⟩
  rw [← hj] at h
  obtain ⟨⟨h2, h2'⟩, h⟩ := h.cons
  obtain ⟨l, hl⟩ : ∃ l, l = j + 1 := ⟨_, rfl⟩
  rw [← hl] at h
  obtain ⟨⟨h3, h3'⟩, _⟩ := h.cons
  obtain ⟨hk1, hk2⟩ := hk
  have t1 : ((k : Int) != 34) = true := by rw [bne_iff_ne]; omega
  have t2 : ((k : Int) != 92) = true := by rw [bne_iff_ne]; omega
  have t0 : ((i : Int) == (s.size : Int)) = false := by simp; omega
  have hx : (s.extract j s.size).size = s.size - j := by simp
  have Hx := Hid.mk hx
  have hg : ∃ h : 0 < (s.extract j s.size).size, ((s.extract j s.size)[0]'h).toNat = k := by
    refine ⟨by omega, ?_⟩
    have e : (s.extract j s.size)[0]'(by omega) = s[j]'h2 := by
      rw [ByteArray.getElem_extract]
      rfl
    rw [e, h2']
  have Hg := Hid.mk hg
  have hr1 : Rdr (w.setCell ⟨b, 1, none⟩ (.int .i64 ((i : Int) + 1))) b s j := hr.setAt _ (by omega)
  have Hr1 := Hid.mk hr1
  have Hj := Hid.mk (And.intro hj hl)
  clear hat h hx hg hr1 hj hl
  have hc := blk_cell hr
  have hf := blk_frozen hr
  have Hb := Hid.mk (lt_of_heap hr)
  clear hr
  go_enter Tryz.func93, Tryz.ntmps93
  go_wp2_with fail
  obtain ⟨w1, hw1⟩ : ∃ w1, w1 = w.setCell ⟨b, 1, none⟩ (.int .i64 ((i : Int) + 1)) := ⟨_, rfl⟩
  rw [← hw1]
  have Hk1 : Hid (Kp [b] w w1) := Hid.mk (by rw [hw1]; exact (Kp.refl _ _).setCell _ (.inl (by simp)))
  rw [← hw1] at Hr1
  clear hw1 hc hf
  go_loopg [3] 1 (fun f v wr => Kp [b] w wr ∧ ∃ a n c xs, v = .slice a n c ∧ wr.ownsRow w.heap.size 5 1 v n xs ∧ ((f = 1 ∧ n = 0 ∧ xs = [] ∧ Rdr wr b s j) ∨ (f = 0 ∧ n = 1 ∧ xs = [dig k] ∧ Rdr wr b s l)))
  case atStart => exact ⟨Hk1.out, none, 0, 0, [], rfl, ⟨rfl, .inl ⟨rfl, rfl⟩⟩, .inl ⟨rfl, rfl, rfl, Hr1.out⟩⟩
  case round =>
    obtain ⟨hkp, a, n, c, xs, rfl, ho, ⟨rfl, rfl, rfl, hr⟩ | ⟨rfl, rfl, rfl, hr⟩⟩ := hrel
    · have Ho := Hid.mk ho
      have Hkp := Hid.mk hkp
      have hc := blk_cell hr
      have hf := blk_frozen hr
      have Hr := Hid.mk hr
      clear ho hkp hr Hr1 Hk1
      go_wp2_with fail
      go_quiet (fail)
      go_wp2_with fail
      go_quiet (fail)
      go_wp2_with fail
      have hjs : j ≤ s.size := by omega
      go_quiet ((go_at_call 82; exact (decode_any _ k _ Hg.out (by omega)).mono fun _ _ h => ⟨h.1, _, h.2.symm⟩))
      go_wp2_with fail
      refine (appendRune_any w.heap.size a 0 c [] k _ (by omega) ?h1 (by omega) ?h2).mono ?_
      case h1 => have := Hkp.out.size; simpa using this
      case h2 => exact Ho.out
      rintro e w2 ⟨a2, c2, rfl, hown2, hk2⟩
      have hnb : b ∉ (Value.slice a 0 c).ownBlock.toList := by
        intro hm
        have h1 := Ho.out.lt b (by simpa using hm)
        have h2 := Hb.out
        omega
      have hr2 : Rdr w2 b s j := by
        refine Rdr.kept ?_ hk2 hnb
        exact Hr.out
      have hc2 := blk_cell hr2
      have hf2 := blk_frozen hr2
      have hr3 : Rdr (w2.setCell ⟨b, 1, none⟩ (.int .i64 ((j : Int) + 1))) b s l := hr2.setAt _ (by have := Hj.out; omega)
      have hkp3 : Kp [b] w (w2.setCell ⟨b, 1, none⟩ (.int .i64 ((j : Int) + 1))) := by
        refine Kp.setCell ((Hkp.out.drewN _).trans' hk2 ?_) _ (.inl (by simp))
        intro k hk1 hk2
        have := (Ho.out.lt k (by simpa using hk1)).1
        omega
      have ho3 := own_setCell hown2 (p := ⟨b, 1, none⟩) (fun k hk e => by
        have h1 := (hown2.lt k hk).1
        have h2 := Hb.out
        have h3 : k = b := e
        omega) (.int .i64 ((j : Int) + 1))
      have HH := Hid.mk (And.intro hr3 (And.intro hkp3 ho3))
      clear hr2 hr3 hkp3 ho3 hown2 hk2 hnb hc hf
      go_wp2_with fail
      go_roundg 0
      case measure => omega
      case rel => exact ⟨HH.out.2.1, a2, 1, c2, [dig k], rfl, HH.out.2.2, .inr ⟨rfl, rfl, rfl, HH.out.1⟩⟩
    · have Ho := Hid.mk ho
      have Hkp := Hid.mk hkp
      have hc := blk_cell hr
      have hf := blk_frozen hr
      have Hr := Hid.mk hr
      clear ho hkp hr Hr1 Hk1
      go_wp2_with fail
      go_quiet (fail)
      have ho1 : (World.drewN wr nq).ownsRow w.heap.size 5 1 (.slice a 1 c) 1 [dig k] := Ho.out
      have hr1 : Rdr (World.drewN wr nq) b s l := Hr.out
      have ho2 := own_setCell ho1 (p := ⟨b, 1, none⟩) (fun k hk e => by
        have h1 := (Ho.out.lt k hk).1
        have h2 := Hb.out
        have h3 : k = b := e
        omega) (.int .i64 ((l : Int) + 1))
      have hstr := str_own (cs := [k]) ho2 9 Tryz.underlying9
      have hr2 := Hid.mk hr1
      clear ho2 ho1 hr1
      go_wp2_with fail
      go_ret
      exact ⟨rfl, Rdr.setAt hr2.out _ (by have := Hj.out; omega), (Hkp.out.drewN _).setCell _ (.inl (by simp))⟩
end Go.Proofs.YtpigmadopflfkaaGreatDoor
