/- impl.Diff gives no operation where the option Equivalent is on. Condition: the documents are one up to the order of their lists. -/
import Derived.Test.YtpigmadopflfkaaGreatDoorOdB
import Derived.Defers
import Derived.Recover
namespace Go.Proofs.YtpigmadopflfkaaGreatDoor
open Go.RowKit Go.BigFrame

/-- The differ as it is made. -/
def C0 (v : Bool) : Array Value := #[.map none, .map none, .nilFunc, .nilFunc, .bool false, .bool false, .bool false, .bool false, .bool v, .bool false, .slice none 0 0, .int .i64 0, .slice none 0 0, .slice none 0 0, .string .empty, .int .i64 0, .string .empty, .int .i64 0, .int .i64 0, .int .u64 0, .bool false, .bool false]
theorem opt0 (v : Bool) : Opt (C0 v) v := ⟨rfl, rfl, rfl, rfl, rfl, rfl, rfl, rfl⟩
theorem zro0 (v : Bool) : Zro (C0 v) := ⟨rfl, rfl, rfl, rfl, rfl, rfl⟩

set_option maxRecDepth 100000 in
set_option maxHeartbeats 2000000 in
theorem opt34_any (d : Nat) (C : Array Value) (w : World) (hd : w.heap[d]? = some (.cells C 71)) (h8 : C[8]? = some (.bool false)) :
    Calls Tryz.prog 34 #[.pointer (some ⟨d, 0, none⟩)] w fun e w' => e = .returned (.tuple #[]) ∧ w' = w.setCell ⟨d, 8, none⟩ (.bool true) := by
  have hc := (blk_cell hd 8).trans h8
  have hf := blk_frozen hd
  clear hd h8
  go_enter Tryz.func34, Tryz.ntmps34
  go_wp2_with fail
  exact bodyPost_end (results_none rfl _ _ _) rfl ⟨rfl, rfl⟩

theorem ne34_run (w : World) : (binOp BinOp.neq 76 (.func (.func 34) #[] #[]) Value.nilFunc).run Tryz.prog w = .ok (.bool true) w := by kernel_rfl
theorem ne37_run (q : Nat) (w : World) : (binOp BinOp.neq 76 (.func (.func 37) #[] #[.pointer (some ⟨q, 0, none⟩)]) Value.nilFunc).run Tryz.prog w = .ok (.bool true) w := by kernel_rfl
set_option maxRecDepth 100000 in
set_option maxHeartbeats 2000000 in
theorem opt37_any (d q : Nat) (w : World) (hq : w.cell? ⟨q, 0, none⟩ = some (.slice none 0 0)) :
    Calls Tryz.prog 37 #[.pointer (some ⟨d, 0, none⟩), .pointer (some ⟨q, 0, none⟩)] w fun e w' => e = .returned (.tuple #[]) ∧ w = w' := by
  go_enter Tryz.func37, Tryz.ntmps37
  go_wp2_with fail
  exact bodyPost_ret (results_none rfl _ _ _) rfl ⟨rfl, rfl⟩

set_option maxRecDepth 100000 in
set_option maxHeartbeats 2000000 in
theorem apply_two (d go capo q : Nat) (w : World) (hd : w.heap[d]? = some (.cells (C0 false) 71)) (hgo : go ≠ d) (hqd : q ≠ d)
    (ho0 : w.cell? ⟨go, 0, none⟩ = some (.func (.func 34) #[] #[])) (ho1 : w.cell? ⟨go, 1, none⟩ = some (.func (.func 37) #[] #[.pointer (some ⟨q, 0, none⟩)])) (hq : w.cell? ⟨q, 0, none⟩ = some (.slice none 0 0)) :
    Calls Tryz.prog 17 #[.pointer (some ⟨d, 0, none⟩), .slice (some ⟨go, 0, none⟩) 2 capo] w fun e w' => e = .returned (.tuple #[]) ∧ w'.heap[d]? = some (.cells (C0 true) 71) ∧ Kp [d] w w' := by
  have H := Hid.mk (And.intro hd (And.intro ho0 (And.intro ho1 (And.intro hq (And.intro hgo hqd)))))
  clear hd ho0 ho1 hq hgo hqd
  have n34 := ne34_run
  have n37 := ne37_run q
  go_enter Tryz.func17, Tryz.ntmps17
  go_wp2_with fail
  go_loopg [8] 2 (fun f vi wr => (f = 2 ∧ vi = .int .i64 0 ∧ w = wr) ∨ (f = 1 ∧ vi = .int .i64 1 ∧ wr.heap[d]? = some (.cells (C0 true) 71) ∧ Kp [d] w wr) ∨ (f = 0 ∧ vi = .int .i64 2 ∧ wr.heap[d]? = some (.cells (C0 true) 71) ∧ Kp [d] w wr))
  case atStart => exact .inl ⟨rfl, rfl, rfl⟩
  case round =>
    obtain ⟨rfl, rfl, rfl⟩ | ⟨rfl, rfl, hd, hk⟩ | ⟨rfl, rfl, hd, hk⟩ := hrel
    · have h0 := H.out.2.1
      go_wp2_with fail
      refine (opt34_any d (C0 false) w H.out.1 rfl).mono ?_
      rintro e w' ⟨rfl, rfl⟩
      go_wp2_with fail
      go_roundg 1
      case measure => omega
      case rel => exact .inr (.inl ⟨rfl, rfl, by rw [heap_setCell_same H.out.1]; rfl, (Kp.refl _ _).setCell _ (.inl (by simp))⟩)
    · have h0 := hk.cell H.out.2.2.1 (by simpa using H.out.2.2.2.2.1)
      have H2 := Hid.mk (And.intro hd hk)
      clear hd hk
      go_wp2_with fail
      refine (opt37_any d q wr (H2.out.2.cell H.out.2.2.2.1 (by simpa using H.out.2.2.2.2.2))).mono ?_
      rintro e w' ⟨rfl, rfl⟩
      go_wp2_with fail
      go_roundg 0
      case measure => omega
      case rel => exact .inr (.inr ⟨rfl, rfl, H2.out.1, H2.out.2⟩)
    · have H2 := Hid.mk (And.intro hd hk)
      clear hd hk
      go_wp2_with fail
      exact bodyPost_end (results_none rfl _ _ _) rfl ⟨rfl, H2.out.1, H2.out.2⟩
end Go.Proofs.YtpigmadopflfkaaGreatDoor

namespace Go.Proofs.YtpigmadopflfkaaGreatDoor
open Go.RowKit Go.BigFrame

set_option maxRecDepth 100000 in
set_option maxHeartbeats 2000000 in
theorem compare_top (a b : J) (ih : DiffOk a b) (hva : JV a) (hvb : JV b) (hha : hgt a < 400) (hhb : hgt b < 400) (g1 g2 cap1 cap2 go capo q : Nat) (w : World)
    (hl1 : (enc a).length < 1000000) (hl2 : (enc b).length < 1000000) (hb1 : Byt w g1 (enc a)) (hb2 : Byt w g2 (enc b)) (hg1 : g1 < w.heap.size) (hg2 : g2 < w.heap.size)
    (ho0 : w.cell? ⟨go, 0, none⟩ = some (.func (.func 34) #[] #[])) (ho1 : w.cell? ⟨go, 1, none⟩ = some (.func (.func 37) #[] #[.pointer (some ⟨q, 0, none⟩)])) (hq : w.cell? ⟨q, 0, none⟩ = some (.slice none 0 0)) :
    Calls Tryz.prog 12 #[.slice (some ⟨g1, 0, none⟩) (enc a).length cap1, .slice (some ⟨g2, 0, none⟩) (enc b).length cap2, .slice (some ⟨go, 0, none⟩) 2 capo] w fun e w' =>
      e = .returned (.tuple #[.slice none 0 0, .nilIface]) ∧ Kp [] w w' := by
  have hgl : go < w.heap.size := World.block_lt_of_cell? _ _ ho0
  have hql : q < w.heap.size := World.block_lt_of_cell? _ _ hq
  have H := Hid.mk (And.intro hb1 (And.intro hb2 (And.intro ho0 (And.intro ho1 (And.intro hq (And.intro hgl hql))))))
  clear hb1 hb2 ho0 ho1 hq hgl hql
  go_enter Tryz.func12, Tryz.ntmps12
  go_wp2_with fail
  obtain ⟨d, hdd⟩ : ∃ d, d = w.heap.size := ⟨_, rfl⟩
  obtain ⟨w1, hw1⟩ : ∃ w1, w1 = w.alloc (.cells (C0 false) 71) := ⟨_, rfl⟩
  have hd1 : w1.heap[d]? = some (.cells (C0 false) 71) := by rw [hw1, hdd]; exact heap_alloc_same _ _
  have hk1 : Kp [] w w1 := by rw [hw1]; exact (Kp.refl _ _).alloc _
  have hs1 : w1.heap.size = w.heap.size + 1 := by rw [hw1]; simp
  rw [← hdd]
  have hcall := apply_two d go capo q w1 hd1 (by have := H.out.2.2.2.2.2.1; omega) (by have := H.out.2.2.2.2.2.2; omega) (hk1.cell H.out.2.2.1 (by simp)) (hk1.cell H.out.2.2.2.1 (by simp)) (hk1.cell H.out.2.2.2.2.1 (by simp))
  have Hd := Hid.mk (And.intro hdd (And.intro hk1 hs1))
  rw [hw1] at hcall
  refine hcall.mono ?_
  rintro e w2 ⟨rfl, hd2, hk2⟩
  rw [← hw1] at hk2
  have hc3 : w2.cell? ⟨d, 3, none⟩ = some .nilFunc := blk_cell hd2 3
  have H2 := Hid.mk (And.intro hd2 hk2)
  clear hd1 hk1 hs1 hw1 hcall hd2 hk2 hdd
  go_wp2_with fail
  have hkw2 : Kp [] w w2 := Hd.out.2.1.trans' H2.out.2 (fun j hj hjl => by have := Hd.out.1; simp at hj; omega)
  refine (compareJSON_eqv a b ih hva hvb hha hhb d g1 g2 cap1 cap2 (C0 true) w2 ⟨0, H2.out.1⟩ (opt0 true) (zro0 true) hl1 hl2 (H.out.1.kept hkw2 (by simp)) (H.out.2.1.kept hkw2 (by simp)) (Nat.lt_of_lt_of_le hg1 hkw2.size) (Nat.lt_of_lt_of_le hg2 hkw2.size) (by have := Hd.out.1; omega)).mono ?_
  rintro e w3 ⟨rfl, hk3⟩
  have H3 := Hid.mk (hkw2.trans' hk3 (fun j hj hjl => by have := Hd.out.1; simp at hj; omega))
  clear hkw2 hk3
  go_wp2_with fail
  go_ret2
  exact ⟨rfl, H3.out⟩
end Go.Proofs.YtpigmadopflfkaaGreatDoor

namespace Go.Proofs.YtpigmadopflfkaaGreatDoor
open Go.RowKit Go.BigFrame

theorem f21_any (w : World) : Calls Tryz.prog 21 #[] w fun e w' => e = .returned (.func (.func 34) #[] #[]) ∧ w = w' := by
  go_enter Tryz.func21, Tryz.ntmps21
  go_wp2_with fail
  go_ret
  exact ⟨rfl, rfl⟩
theorem f24_any (w : World) : Calls Tryz.prog 24 #[.slice none 0 0] w fun e w' => e = .returned (.func (.func 37) #[] #[.pointer (some ⟨w.heap.size, 0, none⟩)]) ∧ w' = w.alloc (.cells #[.slice none 0 0] 26) := by
  go_enter Tryz.func24, Tryz.ntmps24
  go_wp2_with fail
  go_ret
  exact ⟨rfl, rfl⟩
theorem info76 : (Tryz.prog.info? 76).map (fun i => (i.zero, i.size, i.bytes)) = some (some .nilFunc, 1, 8) := by kernel_rfl
/-- append of one option, which lies in a new cell. -/
theorem wpList_appOpt {ops : Array Oper} {rest : List Oper} {o : Oper} {a : Act} {Q : Exit → Act → World → Prop} {w : World} (hgd : o.guard = none) (s x : Operand)
    (ho : o.op = .call { callee := .builtin .append, args := #[s, x], argTypes := #[46, 46] })
    (base : Nat) (sa : Option Addr) (n cap : Nat) (xs : List Value) (hs : a.eval s = .slice sa n cap) (hown : w.ownsRow base 76 1 (.slice sa n cap) n xs)
    (g c : Nat) (u : Value) (hx : a.eval x = .slice (some ⟨g, 0, none⟩) 1 c) (hu : u.oneCell' = true) (hnews : w.cell? ⟨g, 0, none⟩ = some u)
    (h63 : n < 1000000000000) (hbase : base ≤ w.heap.size)
    (h : ∀ (sa' : Option Addr) (cap' : Nat) (w' : World), w'.ownsRow base 76 1 (.slice sa' (n + 1) cap') (n + 1) (xs ++ [u]) → w.grownBy w' (Value.slice sa n cap).ownBlock →
      wpList Tryz.prog ops Q rest (a.put o.dst (.slice sa' (n + 1) cap')) w') : wpList Tryz.prog ops Q (o :: rest) a w := by
  refine wpList_app hgd s x 46 76 8 .nilFunc ho Tryz.underlying46 info76 rfl base sa n cap xs hs hown ⟨g, 0, none⟩ 1 c [u] hx rfl ?_ (by simpa using hu) (by omega) (by omega) hbase h
  intro j u' hj
  cases j with
  | zero => cases hj; exact hnews
  | succ j => cases hj

set_option maxRecDepth 100000 in
set_option maxHeartbeats 2000000 in
theorem list_eqv (w : World) : Calls Tryz.prog 13 #[.agg #[.bool false, .bool false, .bool true, .bool false, .bool false, .slice none 0 0]] w fun e w' => ∃ sa cap, e = .returned (.slice sa 2 cap) ∧ Kp [] w w' ∧
    ∃ q, w'.ownsRow w.heap.size 76 1 (.slice sa 2 cap) 2 [.func (.func 34) #[] #[], .func (.func 37) #[] #[.pointer (some ⟨q, 0, none⟩)]] ∧ w'.heap[q]? = some (.cells #[.slice none 0 0] 26) := by
  go_enter Tryz.func13, Tryz.ntmps13
  go_wp2_with fail
  obtain ⟨p, hp⟩ : ∃ p, p = w.heap.size := ⟨_, rfl⟩
  obtain ⟨w1, hw1⟩ : ∃ w1, w1 = w.alloc (.cells #[.bool false, .bool false, .bool true, .bool false, .bool false, .slice none 0 0] 34) := ⟨_, rfl⟩
  rw [← hw1, ← hp]
  have hk1 : Kp [] w w1 := by rw [hw1]; exact (Kp.refl _ _).alloc _
  have hp1 : w1.heap[p]? = some (.cells #[.bool false, .bool false, .bool true, .bool false, .bool false, .slice none 0 0] 34) := by rw [hw1, hp]; exact heap_alloc_same _ _
  have H1 := Hid.mk (And.intro hk1 (And.intro hp1 hp))
  clear hw1 hk1 hp1 hp
  refine (f21_any w1).mono ?_
  rintro e w' ⟨rfl, rfl⟩
  have hpl := lt_of_heap H1.out.2.1
  have Hpl := Hid.mk hpl
  clear hpl
  go_wp2_with (at_builtin; refine wpList_appOpt rfl _ _ rfl w.heap.size none 0 0 [] rfl ⟨rfl, .inl ⟨rfl, rfl⟩⟩ w1.heap.size 1 (.func (.func 34) #[] #[]) rfl rfl (by simp) (by omega) (by have := H1.out.1.size; simp; omega) ?_; intro a2 c2 w2 hown2 hgr2; have Hw2 := Hid.mk (And.intro hgr2 hown2); clear hgr2 hown2; have hc2 := blk_cell (app_at Hw2.out.1 H1.out.2.1 (by intro e; cases e)))
  have hk2 : Kp [] w w2 := (H1.out.1.alloc _).grown Hw2.out.1 (fun k hk => by cases hk)
  refine (f24_any w2).mono ?_
  rintro e w3 ⟨rfl, hw3⟩
  have hk3 : Kp [] w2 w3 := by rw [hw3]; exact (Kp.refl _ _).alloc _
  have hq3 : w3.heap[w2.heap.size]? = some (.cells #[.slice none 0 0] 26) := by rw [hw3]; exact heap_alloc_same _ _
  have hown3 := hk3.owns Hw2.out.2 (by simp)
  have H3 := Hid.mk (And.intro (hk2.trans hk3) (And.intro hq3 hown3))
  clear hw3 hk2 hk3 hq3 hown3 hc2
  go_wp2_with (at_builtin; refine wpList_appOpt rfl _ _ rfl w.heap.size a2 1 c2 _ rfl (H3.out.2.2.alloc _) w3.heap.size 1 (.func (.func 37) #[] #[.pointer (some ⟨w2.heap.size, 0, none⟩)]) rfl rfl (by simp) (by omega) (by have := H3.out.1.size; simp; omega) ?_; intro a4 c4 w4 hown4 hgr4; have Hw4 := Hid.mk (And.intro hgr4 hown4); clear hgr4 hown4)
  go_ret
  refine ⟨a4, c4, rfl, (H3.out.1.alloc _).grown Hw4.out.1 (fun k hk => .inr (H3.out.2.2.lt k hk).1), w2.heap.size, Hw4.out.2, ?_⟩
  exact app_at Hw4.out.1 H3.out.2.1 (own_ne9 H3.out.2.2 H3.out.2.1 (by intro cur e; cases e))
end Go.Proofs.YtpigmadopflfkaaGreatDoor

namespace Go.Proofs.YtpigmadopflfkaaGreatDoor
open Go.RowKit Go.BigFrame

set_option maxHeartbeats 400000 in
theorem f11_any (p1 p2 : Nat) (w : World) : CallsD Tryz.prog 11 #[.pointer (some ⟨p1, 0, none⟩), .pointer (some ⟨p2, 0, none⟩)] .returning w fun e u' w' => e = .returned (.tuple #[]) ∧ u' = .returning ∧ w' = w := by
  refine callsD_of_wpS Tryz.func11 rfl fun c₀ cs hu => ?_
  apply wpS_seq
  apply wpS_region
  simp [wpOpsS, go_sem, recoverD, hu, Tryz.ntmps11, Exit.thenS]
  refine wpS_cond (t := false) (by simp [Act.eval, Array.replicate]) ?_
  simp only [Bool.false_eq_true, if_false]
  refine wpS_of_wp (wp_skip ?_)
  cases c₀
  simp_all [bodyPostS, results, Tryz.results11]

set_option maxRecDepth 100000 in
set_option maxHeartbeats 2000000 in
theorem plain_nil (w : World) : Calls Tryz.prog 14 #[.slice none 0 0] w fun e w' => e = .returned (.tuple #[.slice none 0 0, .int .i64 0]) ∧ w = w' := by
  go_enter Tryz.func14, Tryz.ntmps14
  go_wp2_with fail
  apply wp_loop_once
  go_wp2_with fail
  go_ret2
  exact ⟨rfl, rfl⟩

set_option maxRecDepth 100000 in
set_option maxHeartbeats 2000000 in
theorem diff_eqv (a b : J) (ih : DiffOk a b) (hva : JV a) (hvb : JV b) (hha : hgt a < 400) (hhb : hgt b < 400) (hl1 : (enc a).length < 1000000) (hl2 : (enc b).length < 1000000) (w : World) :
    Calls Tryz.prog 8 #[.string (txt (enc a)), .string (txt (enc b)), .agg #[.bool false, .bool false, .bool true, .bool false, .bool false, .slice none 0 0]] w fun e w' => e = .returned (.tuple #[.slice none 0 0, .int .i64 0]) ∧ Kp [] w w' := by
  go_enter_defers Tryz.func8, Tryz.ntmps8
  go_upto_region 2 with (fail)
  obtain ⟨p, hp⟩ : ∃ p, p = w.heap.size := ⟨_, rfl⟩
  obtain ⟨p1, hp1⟩ : ∃ p1, p1 = w.heap.size + 1 := ⟨_, rfl⟩
  obtain ⟨p2, hp2⟩ : ∃ p2, p2 = w.heap.size + 1 + 1 := ⟨_, rfl⟩
  obtain ⟨w1, hw1⟩ : ∃ w1, w1 = ((w.alloc (.cells #[.bool false, .bool false, .bool true, .bool false, .bool false, .slice none 0 0] 34)).alloc (.cells #[.slice none 0 0] 30)).alloc (.cells #[.int .i64 0] 3) := ⟨_, rfl⟩
  rw [← hw1, ← hp2, ← hp1, ← hp]
  have hk1 : Kp [] w w1 := by rw [hw1]; exact (((Kp.refl _ _).alloc _).alloc _).alloc _
  have hs1 : w1.heap.size = w.heap.size + 3 := by rw [hw1]; simp
  have hc0 : w1.heap[p]? = some (.cells #[.bool false, .bool false, .bool true, .bool false, .bool false, .slice none 0 0] 34) := by
    rw [hw1, hp]; exact (heap_alloc_lt (by simp; omega) _).trans ((heap_alloc_lt (by simp) _).trans (heap_alloc_same _ _))
  have hc1 : w1.heap[p1]? = some (.cells #[.slice none 0 0] 30) := by
    rw [hw1, hp1]
    refine (heap_alloc_lt (by simp) _).trans ?_
    have := heap_alloc_same (w.alloc (.cells #[.bool false, .bool false, .bool true, .bool false, .bool false, .slice none 0 0] 34)) (.cells #[.slice none 0 0] 30)
    simpa using this
  have hc2 : w1.heap[p2]? = some (.cells #[.int .i64 0] 3) := by
    rw [hw1, hp2]
    have := heap_alloc_same ((w.alloc (.cells #[.bool false, .bool false, .bool true, .bool false, .bool false, .slice none 0 0] 34)).alloc (.cells #[.slice none 0 0] 30)) (.cells #[.int .i64 0] 3)
    simpa using this
  clear hw1
  have hcv1 := Lib.run_convert_string_bytes (P := Tryz.prog) w1 9 23 5 (txt (enc a)) Tryz.underlying9 Tryz.underlying23 Tryz.underlying5
  have hby1 := bytes_byt w1 (cs := enc a) (enc_lt hva)
  have hkb1 := bytes_kp w1 5 (txt (enc a))
  have hsz1 := Lib.bytesWorld_size w1 5 (txt (enc a))
  rw [txt_size] at hcv1
  generalize Lib.bytesWorld w1 5 (txt (enc a)) = w2 at hcv1 hby1 hkb1 hsz1
  generalize grownCap w1 (enc a).length 0 5 = cap1 at hcv1
  have hcv2 := Lib.run_convert_string_bytes (P := Tryz.prog) w2 9 23 5 (txt (enc b)) Tryz.underlying9 Tryz.underlying23 Tryz.underlying5
  have hby2 := bytes_byt w2 (cs := enc b) (enc_lt hvb)
  have hkb2 := bytes_kp w2 5 (txt (enc b))
  have hsz2 := Lib.bytesWorld_size w2 5 (txt (enc b))
  rw [txt_size] at hcv2
  generalize Lib.bytesWorld w2 5 (txt (enc b)) = w3 at hcv2 hby2 hkb2 hsz2
  generalize grownCap w2 (enc b).length 0 5 = cap2 at hcv2
  have hc0' := blk_cell (hkb2.at (hkb1.at hc0 (by simp)) (by simp))
  have H := Hid.mk (And.intro hk1 (And.intro hc1 (And.intro hc2 (And.intro hby1 (And.intro hkb1 (And.intro hby2 hkb2))))))
  have HS := Hid.mk (And.intro hp (And.intro hp1 (And.intro hp2 (And.intro hs1 (And.intro hsz1 hsz2)))))
  clear hk1 hc1 hc2 hby1 hkb1 hby2 hkb2 hp hp1 hp2 hs1 hsz1 hsz2 hc0
  go_wp2_with fail
  clear hcv1 hcv2 hc0'
  refine (list_eqv w3).mono ?_
  rintro e w4 ⟨sa, capo, rfl, hk4, q, hown, hq⟩
  obtain ⟨go, rfl, hgo1, hgo2, hcs⟩ := own_cells hown (by omega)
  have hkk := (H.out.1.trans H.out.2.2.2.2.1).trans (H.out.2.2.2.2.2.2.trans hk4)
  have HC := Hid.mk (compare_top a b ih hva hvb hha hhb w1.heap.size w2.heap.size cap1 cap2 go capo q w4 hl1 hl2 ((H.out.2.2.2.1.kept H.out.2.2.2.2.2.2 (by simp)).kept hk4 (by simp)) (H.out.2.2.2.2.2.1.kept hk4 (by simp)) (by have := HS.out; have := hk4.size; omega) (by have := HS.out; have := hk4.size; omega) (hcs 0 (by omega)) (hcs 1 (by omega)) (blk_cell hq 0))
  have H4 := Hid.mk (And.intro hkk hk4)
  clear hcs hown hq hkk hk4 hgo1 hgo2
  go_wp2_with fail
  refine HC.out.mono ?_
  rintro e w5 ⟨rfl, hk5⟩
  have H5 := Hid.mk hk5
  clear hk5
  go_wp2_with fail
  refine (plain_nil w5).mono ?_
  rintro e w' ⟨rfl, rfl⟩
  have hk15 : Kp [] w1 w5 := (H.out.2.2.2.2.1.trans H.out.2.2.2.2.2.2).trans (H4.out.2.trans H5.out)
  have hp1c := hk15.at H.out.2.1 (by simp)
  have hp2c := hk15.at H.out.2.2.1 (by simp)
  have c1 := blk_cell hp1c
  have f1 := blk_frozen hp1c
  have c2 := blk_cell hp2c
  have f2 := blk_frozen hp2c
  have hne : p1 ≠ p2 := by have := HS.out; omega
  have hne2 : p2 ≠ p1 := by have := HS.out; omega
  clear hp1c hp2c
  go_wp2_with fail
  have hkf : Kp [] w ((w5.setCell ⟨p1, 0, none⟩ (.slice none 0 0)).setCell ⟨p2, 0, none⟩ (.int .i64 0)) := ((H4.out.1.trans H5.out).setCell _ (.inr (by have := HS.out; simp; omega))).setCell _ (.inr (by have := HS.out; simp; omega))
  refine leaves_cons (f := 11) (args := #[.pointer (some ⟨p1, 0, none⟩), .pointer (some ⟨p2, 0, none⟩)]) (by simp) (by simp [go_sem]) ?_
  refine (f11_any p1 p2 _).mono ?_
  rintro e u' w'' ⟨rfl, rfl, rfl⟩
  simp [Leaves, settle, results, Tryz.results8, go_sem, c1, c2, hne, hne2]
  exact hkf
end Go.Proofs.YtpigmadopflfkaaGreatDoor

namespace Go.Proofs.YtpigmadopflfkaaGreatDoor
/-- The digits of a number below a thousand. -/
def digs (n : Nat) : List Nat := if n < 10 then [n] else if n < 100 then [n / 10, n % 10] else [n / 100, n / 10 % 10, n % 10]
theorem digs_val : ∀ n, n < 129 → ((pfF (digs n)).any (· < 9223372036854775808)) = true := by decide +kernel
theorem one_eq : feq (fb (false, [1])) (fb (false, [1])) = true := by decide +kernel
end Go.Proofs.YtpigmadopflfkaaGreatDoor
