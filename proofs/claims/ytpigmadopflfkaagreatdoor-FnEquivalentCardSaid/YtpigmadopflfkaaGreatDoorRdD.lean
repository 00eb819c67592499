/- The reading of a list in a text of JSON. Condition: it is the text of a plain document. -/
import Derived.Test.YtpigmadopflfkaaGreatDoorRdC
namespace Go.Proofs.YtpigmadopflfkaaGreatDoor
open Go.RowKit Go.BigFrame

theorem inside_true (s : ByteArray) (i b c d : Nat) (w : World) (hs : s.size < 1000000) (hc : ∃ h : i < s.size, (s[i]'h).toNat = c) (hd : ∃ h : i + 1 < s.size, (s[i + 1]'h).toNat = d) (hr : Rdr w b s i)
    (hc2 : c = 44 ∨ c = 91 ∨ c = 123) (h32 : 32 < d) (h93 : d ≠ 93) (h125 : d ≠ 125) :
    Calls Tryz.prog 92 #[.pointer (some ⟨b, 0, none⟩)] w fun e w' => e = .returned (.bool true) ∧ Rdr w' b s (i + 1) ∧ Kp [b] w w' := by
  have hnb := nb_of hd h32
  rcases hc2 with h | h
  · exact inside_comma s i b c w hs hc hnb hr h
  · exact inside_open s i b c w hs hc hnb hr h d hd (by omega)

theorem info20 : (Tryz.prog.info? 20).map (fun i => (i.zero, i.size, i.bytes)) = some (some .nilIface, 1, 16) := by kernel_rfl
/-- append of one value of type any, which lies in a new cell. -/
theorem wpList_appAny {ops : Array Oper} {rest : List Oper} {o : Oper} {a : Act} {Q : Exit → Act → World → Prop} {w : World} (hgd : o.guard = none) (s x : Operand)
    (ho : o.op = .call { callee := .builtin .append, args := #[s, x], argTypes := #[119, 119] })
    (base : Nat) (sa : Option Addr) (n cap : Nat) (xs : List Value) (hs : a.eval s = .slice sa n cap) (hown : w.ownsRow base 20 1 (.slice sa n cap) n xs)
    (g c : Nat) (u : Value) (hx : a.eval x = .slice (some ⟨g, 0, none⟩) 1 c) (hu : u.oneCell' = true) (hnews : w.cell? ⟨g, 0, none⟩ = some u)
    (h63 : n < 1000000000000) (hbase : base ≤ w.heap.size)
    (h : ∀ (sa' : Option Addr) (cap' : Nat) (w' : World), w'.ownsRow base 20 1 (.slice sa' (n + 1) cap') (n + 1) (xs ++ [u]) → w.grownBy w' (Value.slice sa n cap).ownBlock →
      wpList Tryz.prog ops Q rest (a.put o.dst (.slice sa' (n + 1) cap')) w') : wpList Tryz.prog ops Q (o :: rest) a w := by
  refine wpList_app hgd s x 119 20 16 .nilIface ho Tryz.underlying119 info20 rfl base sa n cap xs hs hown ⟨g, 0, none⟩ 1 c [u] hx rfl ?_ (by simpa using hu) (by omega) (by omega) hbase h
  intro j u' hj
  cases j with
  | zero => cases hj; exact hnews
  | succ j => cases hj

/-- Where the reader stands ahead of the rest of a list. -/
def ArrAt (s : ByteArray) (rest : List Num) (p m : Nat) : Prop :=
  match rest with
  | [] => (∃ h : p < s.size, (s[p]'h).toNat = 93) ∧ p + 1 = m
  | y :: t => ∃ c, (c = 44 ∨ c = 91) ∧ At s p (c :: (encL (y :: t) ++ [93])) ∧ p + 1 + (encL (y :: t) ++ [93]).length = m

theorem ncodes_pos {x : Num} (hx : NumOk x) : 0 < (ncodes x).length := by
  obtain ⟨c, r, hc, _⟩ := ncodes_head hx
  rw [hc]; simp
theorem encL_len : ∀ {l : List Num}, (∀ x ∈ l, NumOk x) → l.length ≤ (encL l).length
  | [], _ => Nat.zero_le _
  | [x], h => ncodes_pos (h x (by simp))
  | x :: y :: r, h => by
    have h1 := encL_len (l := y :: r) (fun z hz => h z (by simp at hz ⊢; exact .inr hz))
    have h2 := ncodes_pos (h x (by simp))
    rw [encL_cons (List.cons_ne_nil y r)]
    simp at h1 ⊢
    omega
theorem arr_step {s : ByteArray} {y : Num} {t : List Num} {q m : Nat} (hy : NumOk y) (h : At s q (encL (y :: t) ++ [93])) (hm : q + (encL (y :: t) ++ [93]).length = m) :
    At s q (ncodes y) ∧ Stop s (q + (ncodes y).length) ∧ ArrAt s t (q + (ncodes y).length) m ∧ ∃ d, (∃ h : q < s.size, (s[q]'h).toNat = d) ∧ 32 < d ∧ d ≠ 93 ∧ d ≠ 125 := by
  obtain ⟨c, r, hc, hc2⟩ := ncodes_head hy
  have hd : ∀ z, At s q (ncodes y ++ z) → ∃ d, (∃ h : q < s.size, (s[q]'h).toNat = d) ∧ 32 < d ∧ d ≠ 93 ∧ d ≠ 125 := by
    intro z hz
    rw [hc] at hz
    exact ⟨c, hz.cons.1, by omega, by omega, by omega⟩
  cases t with
  | nil =>
    obtain ⟨h1, h2⟩ := At.append (show At s q (ncodes y ++ [93]) from h)
    refine ⟨h1, Stop.of h2.cons.1 (by simp), ⟨h2.cons.1, ?_⟩, hd _ h⟩
    simp [encL] at hm
    omega
  | cons z t =>
    rw [encL_cons (List.cons_ne_nil z t), List.append_assoc] at h hm
    obtain ⟨h1, h2⟩ := At.append h
    have h3 : At s (q + (ncodes y).length) (44 :: (encL (z :: t) ++ [93])) := h2
    refine ⟨h1, Stop.of h3.cons.1 (by simp), ⟨44, .inl rfl, h3, ?_⟩, hd _ h⟩
    simp at hm ⊢
    omega

set_option maxRecDepth 100000 in
set_option maxHeartbeats 1000000 in
theorem value_arr (l : List Num) : ValOk (.arr l) := by
  intro s b i w hs hv hat hst hr
  replace hv : ∀ x ∈ l, NumV x := hv
  obtain ⟨m, hm⟩ : ∃ m, m = i + (enc (.arr l)).length := ⟨_, rfl⟩
  rw [← hm] at hst
  obtain ⟨h0, hat1⟩ := At.cons (show At s i (91 :: (encL l ++ [93])) from hat)
  have hnb : NB s i := nb_of h0 (by decide)
  obtain ⟨h2, h3⟩ := h0
  have H := Hid.mk (And.intro hv (And.intro hat (And.intro hst (And.intro hnb (And.intro hm hat1)))))
  clear hv hat hst hnb hm hat1
  have hr1 : Rdr (w.drew.setCell ⟨b, 1, none⟩ (.int .i64 i)) b s i := Rdr.setAt (w := w.drew) hr _ rfl
  have Hr1 := Hid.mk hr1
  have hcc := blk_cell hr
  have hff := blk_frozen hr
  have Hb := Hid.mk (lt_of_heap hr)
  clear hr hr1
  go_enter Tryz.func63, Tryz.ntmps63
  go_wp2_with fail
  go_still_tail 10, (by kernel_rfl)
  still_call (still_ok (skip_nb s i _ H.out.2.2.2.1))
  refine wpStill_nil ?_
  change wpList _ _ _ _ _ w.drew
  go_wp2_with fail
  obtain ⟨w1, hw1⟩ : ∃ w1, w1 = (w.setCell ⟨b, 1, none⟩ (.int .i64 (i : Int))).drew := ⟨_, rfl⟩
  have Hk1 : Hid (Kp [b] w w1) := Hid.mk (by rw [hw1]; exact ((Kp.refl _ _).setCell _ (.inl (by simp))).drew)
  have hr2 : Rdr w1 b s i := by rw [hw1]; exact Hr1.out
  have hcc := blk_cell hr2
  have hff := blk_frozen hr2
  have Hr2 := Hid.mk hr2
  rw [← hw1]
  clear hw1 Hr1 hr2
  go_quiet (fail)
  go_wp2_with fail
  obtain ⟨w2, hw2⟩ : ∃ w2, w2 = (w1.drewN nq).alloc (Obj.cells #[] 20) := ⟨_, rfl⟩
  obtain ⟨g0, hg0⟩ : ∃ g0, g0 = w1.heap.size := ⟨_, rfl⟩
  rw [← hw2, ← hg0]
  have Hk2 : Hid (Kp [b] w w2) := Hid.mk (by rw [hw2]; exact (Hk1.out.drewN _).alloc _)
  have Hr3 : Hid (Rdr w2 b s i) := Hid.mk (by
    rw [hw2]
    refine Rdr.kept (Hr2.out : Rdr w1 b s i) (S := []) ?_ (by simp)
    exact ((Kp.refl _ _).drewN _).alloc _)
  have Ho : Hid (w2.ownsRow w.heap.size 20 1 (.slice (some ⟨g0, 0, none⟩) 0 0) 0 []) := Hid.mk (by
    refine ⟨rfl, .inr ⟨g0, 0, #[], rfl, ?_, ?_, by omega, by decide, rfl, rfl⟩⟩
    · rw [hg0]; exact Hk1.out.size
    · rw [hw2, hg0]; exact heap_alloc_same _ _)
  clear hw2 hg0 hcc hff Hr2 Hk1
  rcases l with _ | ⟨x, r⟩
  · apply wp_loop_once
    go_wp2_with fail
    refine (inside_none s i b 91 w2 hs ⟨h2, h3⟩ (nb_of H.out.2.2.2.2.2.cons.1 (by decide)) Hr3.out (.inl rfl) 93 H.out.2.2.2.2.2.cons.1 rfl).mono ?_
    rintro e w3 ⟨rfl, hr3, hk3⟩
    have H3 := Hid.mk (And.intro hr3 hk3)
    clear hr3 hk3
    go_wp2_with fail
    go_ret
    refine ⟨_, rfl, ⟨_, _, rfl, ?_⟩, H3.out.1, Hk2.out.trans H3.out.2⟩
    exact H3.out.2.owns Ho.out (fun k hk e => by
      have h1 := (Ho.out.lt k hk).1
      have h2 := Hb.out
      simp at e
      omega)
  · go_loopg [5] (x :: r).length (fun f v wr => ∃ (done rest : List Num) (p : Nat) (a : Option Addr) (cap : Nat), v = .slice a done.length cap ∧ x :: r = done ++ rest ∧ f = rest.length ∧
      wr.ownsRow w.heap.size 20 1 (.slice a done.length cap) done.length (done.map fv) ∧ Kp [b] w wr ∧ Rdr wr b s p ∧ ArrAt s rest p m)
    case atStart =>
      refine ⟨[], x :: r, i, _, _, rfl, rfl, rfl, Ho.out, Hk2.out, Hr3.out, 91, .inr rfl, H.out.2.1, ?_⟩
      have := H.out.2.2.2.2.1
      simp [enc] at this ⊢
      omega
    case round =>
      obtain ⟨done, rest, p, a, cap, rfl, hl, rfl, ho, hkp, hr, hp⟩ := hrel
      have Hl := Hid.mk hl
      have Ho2 := Hid.mk ho
      have Hkp := Hid.mk hkp
      have Hr := Hid.mk hr
      clear hl ho hkp hr Ho Hr3 Hk2
      rcases rest with _ | ⟨y, t⟩
      · obtain ⟨hp, hpm⟩ := hp
        have Hpm := Hid.mk hpm
        have Hp := Hid.mk hp
        clear hpm hp
        go_wp2_with fail
        refine (inside_end s p b 93 wr hs Hp.out (by rw [Hpm.out]; exact H.out.2.2.1.nb) Hr.out (.inl rfl)).mono ?_
        rintro e w3 ⟨rfl, hr3, hk3⟩
        have H3 := Hid.mk (And.intro hr3 hk3)
        clear hr3 hk3
        go_wp2_with fail
        go_ret
        have e1 := Hl.out
        simp only [List.append_nil] at e1
        refine ⟨_, rfl, ?_, ?_, Hkp.out.trans H3.out.2⟩
        · rw [e1]
          refine ⟨_, _, rfl, ?_⟩
          exact H3.out.2.owns Ho2.out (fun k hk e => by
            have h1 := (Ho2.out.lt k hk).1
            have h2 := Hb.out
            simp at e
            omega)
        · have h1 := H3.out.1
          rw [Hpm.out, H.out.2.2.2.2.1] at h1
          exact h1
      · obtain ⟨c, hc, hat, hpm⟩ := hp
        obtain ⟨hc0, hat⟩ := hat.cons
        have hy : NumV y := H.out.1 y (by rw [Hl.out]; simp)
        obtain ⟨hy1, hy2, hy3, d, hd, h32, h93, h125⟩ := arr_step hy.ok hat hpm
        have HH := Hid.mk (And.intro hy (And.intro hy1 (And.intro hy2 (And.intro hy3 (And.intro hc0 hd)))))
        clear hat hpm hc0 hy hy1 hy2 hy3 hd
        go_wp2_with fail
        refine (inside_true s p b c d wr hs HH.out.2.2.2.2.1 HH.out.2.2.2.2.2 Hr.out (by omega) h32 h93 h125).mono ?_
        rintro e w3 ⟨rfl, hr3, hk3⟩
        have H3 := Hid.mk (And.intro hr3 hk3)
        clear hr3 hk3
        go_wp2_with fail
        refine (value_num y s b (p + 1) w3 hs HH.out.1 HH.out.2.1 HH.out.2.2.1 H3.out.1).mono ?_
        rintro e w4 ⟨v, rfl, hv4, hr4, hk4⟩
        obtain rfl : v = fv y := hv4
        have ho4 : w4.ownsRow w.heap.size 20 1 (.slice a done.length cap) done.length (done.map fv) := hk4.owns (H3.out.2.owns Ho2.out (fun k hk e => by
            have h1 := (Ho2.out.lt k hk).1
            have h2 := Hb.out
            simp at e
            omega)) (fun k hk e => by
            have h1 := (Ho2.out.lt k hk).1
            have h2 := Hb.out
            simp at e
            omega)
        have hk4' : Kp [b] w w4 := (Hkp.out.trans H3.out.2).trans hk4
        have H4 := Hid.mk (And.intro hr4 (And.intro hk4' ho4))
        have hlen : done.length < 1000000 := by
          have h1 := congrArg List.length Hl.out
          have h2 := H.out.2.1.size (Nat.le_of_lt ‹i < s.size›)
          have h3 := encL_len (fun z hz => (H.out.1 z hz).ok)
          simp [enc] at h1 h2 h3
          omega
        clear hr4 hk4' ho4 hk4
        go_wp2_with (at_builtin; refine wpList_appAny rfl _ _ rfl w.heap.size a done.length cap _ rfl (H4.out.2.2.alloc _) w4.heap.size 1 (fv y) rfl rfl (by simp) (by omega) (by have := H4.out.2.1.size; simp; omega) ?_; intro a2 c2 w5 hown2 hgr2; have Hw5 := Hid.mk (And.intro hgr2 hown2); clear hgr2 hown2)
        go_roundg t.length
        case measure => simp
        case rel =>
          have hkp5 : Kp [b] w w5 := (H4.out.2.1.alloc _).grown Hw5.out.1 (fun k hk => .inr (H4.out.2.2.lt k hk).1)
          refine ⟨done ++ [y], t, p + 1 + (ncodes y).length, a2, c2, by simp, by rw [Hl.out]; simp, rfl, ?_, hkp5, ?_, HH.out.2.2.2.1⟩
          · have := Hw5.out.2
            simpa using this
          · refine app_at Hw5.out.1 H4.out.1 ?_
            intro e
            have h1 := (H4.out.2.2.lt b e).1
            have h2 := Hb.out
            omega
end Go.Proofs.YtpigmadopflfkaaGreatDoor
