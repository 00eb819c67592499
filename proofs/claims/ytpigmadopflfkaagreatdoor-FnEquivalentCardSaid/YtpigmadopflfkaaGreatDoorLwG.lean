/- The law FnEquivalent: it returns true. Conditions: its arguments are slices of small numbers and of bytes, and the two package variables that strconv reads hold what start-up lays. -/
import Derived.Test.YtpigmadopflfkaaGreatDoorKnA
import Derived.Test.YtpigmadopflfkaaGreatDoorLwF
namespace Go.Proofs.YtpigmadopflfkaaGreatDoor
open Go.RowKit Go.BigFrame
/-- This value is a slice of these bytes. -/
def U8 (w : World) (v : Value) (l : List Int) : Prop :=
  ∃ sa cap, v = .slice sa l.length cap ∧ (0 < l.length → ∃ g o, sa = some ⟨g, o, none⟩ ∧ g < w.heap.size ∧ ∀ i (hi : i < l.length), w.cell? ⟨g, o + i, none⟩ = some (.int .u8 l[i]) ∧ 0 ≤ l[i] ∧ l[i] ≤ 255)
theorem wrapJ_jv {a : J} (h : JV a) : ∀ j, JV (wrapJ j a)
  | 0 => h
  | j + 1 => ⟨by unfold keyOk; omega, by unfold keyOk; omega, by omega, wrapJ_jv h j, kv 1 (by omega)⟩
theorem wrapJ_hgt (a : J) : ∀ j, hgt (wrapJ j a) = hgt a + j
  | 0 => rfl
  | j + 1 => by simp [wrapJ, hgt, wrapJ_hgt a j]; omega
theorem wrapJ_sim {a b : J} (h : Sim a b) : ∀ j, Sim (wrapJ j a) (wrapJ j b)
  | 0 => h
  | j + 1 => ⟨rfl, rfl, by unfold keyOk; omega, by unfold keyOk; omega, by omega, wrapJ_sim h j, trivial⟩
theorem wrapJ_ok {a b : J} (hs : Sim a b) (h : DiffOk a b) : ∀ j, DiffOk (wrapJ j a) (wrapJ j b)
  | 0 => h
  | j + 1 => diffOk_obj2 97 98 (by omega) _ _ _ _ (wrapJ_sim hs (j + 1)) (wrapJ_ok hs h j) (diffOk_num _ one_eq)
theorem lists_ok {l m : List Int} (hp : l.Perm m) (h40 : l.length ≤ 40) (q : Nat) : DiffOk (wrapJ q (.arr (l.map numOf))) (wrapJ q (.arr (m.map numOf))) := by
  refine wrapJ_ok (a := .arr (l.map numOf)) (b := .arr (m.map numOf)) ⟨by simpa using hp.length_eq, by simp; omega⟩ (diffOk_arr _ _ (by simpa using hp.length_eq) (by simp; omega) ?_) q
  intro x hx
  obtain ⟨y, hy, rfl⟩ := List.mem_map.1 hx
  exact List.mem_map.2 ⟨numOf y, List.mem_map.2 ⟨y, hp.mem_iff.2 hy, rfl⟩, rfl⟩
theorem lists_jv {l : List Int} (hx : ∀ x ∈ l, -128 ≤ x ∧ x ≤ 127) (q : Nat) : JV (wrapJ q (.arr (l.map numOf))) :=
  wrapJ_jv (a := .arr (l.map numOf)) (fun y hy => by obtain ⟨x, hx', rfl⟩ := List.mem_map.1 hy; exact numOf_val x (hx x hx').1 (hx x hx').2) q
theorem lists_len {l : List Int} (h40 : l.length ≤ 40) (q : Nat) (hq : q < 4) : (enc (wrapJ q (.arr (l.map numOf)))).length < 1000000 := by
  rw [wrapJ_len]
  have := jn_len ((l.map numOf).map ncodes) (by intro y hy; obtain ⟨z, hz, rfl⟩ := List.mem_map.1 hy; obtain ⟨u, hu, rfl⟩ := List.mem_map.1 hz; exact numOf_len u)
  rw [jn_enc] at this
  simp [enc] at this ⊢
  omega
theorem lists_diff {l m : List Int} (hp : l.Perm m) (h40 : l.length ≤ 40) (hx : ∀ x ∈ l, -128 ≤ x ∧ x ≤ 127) (q : Nat) (hq : q < 4) (w : World) :
    Calls Tryz.prog 8 #[.string (txt (enc (wrapJ q (.arr (l.map numOf))))), .string (txt (enc (wrapJ q (.arr (m.map numOf))))), .agg #[.bool false, .bool false, .bool true, .bool false, .bool false, .slice none 0 0]] w fun e w' => e = .returned (.tuple #[.slice none 0 0, .int .i64 0]) ∧ Kp [] w w' :=
  diff_eqv _ _ (lists_ok hp h40 q) (lists_jv hx q) (lists_jv (fun x hm => hx x (hp.mem_iff.2 hm)) q) (by rw [wrapJ_hgt]; simp [hgt]; omega) (by rw [wrapJ_hgt]; simp [hgt]; omega) (lists_len h40 q hq) (lists_len (by rw [← hp.length_eq]; exact h40) q hq) w

set_option maxRecDepth 100000 in
set_option maxHeartbeats 1000000 in
theorem law_big (s0 s1 : Option Addr) (n0 c0 n1 c1 m : Nat) (w : World) (h : 2147483647 < n0 ∨ 2147483647 < n1) :
    Calls Tryz.prog 3 #[.slice s0 n0 c0, .slice s1 n1 c1, .int .u8 m] w fun e w' => e = .returned (.bool true) ∧ Kp [] w w' := by
  by_cases h0 : 2147483647 < n0
  · have t0 : (2147483647 : Int) < (n0 : Int) := by omega
    clear h h0
    go_enter Tryz.func3, Tryz.ntmps3
    go_wp2_with fail
    go_ret
    exact ⟨rfl, (Kp.refl _ _).alloc _⟩
  · have t0 : ¬ ((2147483647 : Int) < (n0 : Int)) := by omega
    have t1 : (2147483647 : Int) < (n1 : Int) := by omega
    clear h h0
    go_enter Tryz.func3, Tryz.ntmps3
    go_wp2_with fail
    go_ret
    exact ⟨rfl, (Kp.refl _ _).alloc _⟩
set_option maxRecDepth 100000 in
set_option maxHeartbeats 1000000 in
theorem law_long (s0 s1 : Option Addr) (n0 c0 n1 c1 m : Nat) (w : World) (hg : GL w) (h0 : ¬ 2147483647 < n0) (h1 : ¬ 2147483647 < n1) (h40 : 40 < n0) :
    Calls Tryz.prog 3 #[.slice s0 n0 c0, .slice s1 n1 c1, .int .u8 m] w fun e w' => e = .returned (.bool true) ∧ Kp [] w w' := by
  have t0 : ¬ ((2147483647 : Int) < (n0 : Int)) := by omega
  have t1 : ¬ ((2147483647 : Int) < (n1 : Int)) := by omega
  have t2 : (40 : Int) < (n0 : Int) := by omega
  have H := Hid.mk hg
  clear h0 h1 h40 hg
  go_enter Tryz.func3, Tryz.ntmps3
  go_wp2_with fail
  have hk : Kp [] w (w.alloc (.cells #[.int .u8 m] 5)) := (Kp.refl _ _).alloc _
  refine (known_any _ (H.out.kept hk (by simp) (by simp))).mono ?_
  rintro e w1 ⟨rfl, hk1⟩
  have H1 := Hid.mk (hk.trans hk1)
  clear hk hk1
  go_wp2_with fail
  go_ret
  exact ⟨rfl, H1.out⟩

theorem swap_perm {l : List Int} {i j : Nat} (hi : i < l.length) (hj : j < l.length) : ((l.set i l[j]).set j l[i]).Perm l := List.set_set_perm hi hj
theorem info25 : (Tryz.prog.info? 25).map (fun i => (i.zero, i.size, i.bytes)) = some (some (.int .i8 0), 1, 1) := by kernel_rfl
/-- append of a slice of small numbers onto an empty row of the call's own. -/
theorem wpList_appI8 {ops : Array Oper} {rest : List Oper} {o : Oper} {a : Act} {Q : Exit → Act → World → Prop} {w : World} (hgd : o.guard = none) (s x : Operand)
    (ho : o.op = .call { callee := .builtin .append, args := #[s, x], argTypes := #[22, 22] })
    (base g0 : Nat) (hs : a.eval s = .slice (some ⟨g0, 0, none⟩) 0 0) (hown : w.ownsRow base 25 1 (.slice (some ⟨g0, 0, none⟩) 0 0) 0 [])
    (sa : Option Addr) (n cap : Nat) (l : List Int) (hx : a.eval x = .slice sa n cap) (hn : l.length = n) (hn40 : n ≤ 40) (hc : 0 < n → ∃ g p, sa = some ⟨g, p, none⟩ ∧ ∀ i (hi : i < l.length), w.cell? ⟨g, p + i, none⟩ = some (.int .i8 l[i]))
    (hbase : base ≤ w.heap.size)
    (h : ∀ (sa' : Option Addr) (cap' : Nat) (w' : World), w'.ownsRow base 25 1 (.slice sa' n cap') n (l.map (Value.int .i8)) → w.grownBy w' (some g0) →
      wpList Tryz.prog ops Q rest (a.put o.dst (.slice sa' n cap')) w') : wpList Tryz.prog ops Q (o :: rest) a w := by
  cases sa with
  | some ad =>
    refine wpList_app hgd s x 22 25 1 (.int .i8 0) ho Tryz.underlying22 info25 rfl base _ 0 0 [] hs hown ad n cap (l.map (Value.int .i8)) hx (by simpa using hn) ?_ (by simp [Value.oneCell']) (by omega) (by omega) hbase ?_
    · intro j u hj
      have hjl : j < l.length := by have := (List.getElem?_eq_some_iff.1 hj).1; simpa using this
      obtain ⟨g, p, he, hcs⟩ := hc (by omega)
      cases he
      have e : (⟨g, p, none⟩ : Addr).add j = ⟨g, p + j, none⟩ := by unfold Addr.add; split <;> simp_all
      rw [e, hcs j hjl]
      rw [List.getElem?_map, List.getElem?_eq_getElem hjl] at hj
      exact hj
    · intro sa' cap' w' hown' hgr
      rw [Nat.zero_add] at hown' ⊢
      exact h sa' cap' w' hown' hgr
  | none =>
    have h0 : n = 0 := by
      rcases Nat.eq_zero_or_pos n with h0 | h0
      · exact h0
      · obtain ⟨g, p, he, _⟩ := hc h0
        cases he
    subst h0
    have hl : l = [] := List.eq_nil_of_length_eq_zero hn
    subst hl
    refine wpList_plain hgd fun K hK => ?_
    have hr : (Builtin.append_ #[22, 22] o.type #[.slice (some ⟨g0, 0, none⟩) 0 0, .slice none 0 cap]).run Tryz.prog w = .ok (.slice (some ⟨g0, 0, none⟩) 0 0) w := by kernel_rfl
    unfold Oper.wp execOp
    simp only [ho, resolve, invoke, builtin, Sem.run_bind, Sem.run_pure, Result.andThen_ok, List.map_toArray, List.map_cons, List.map_nil, hs, hx, hr]
    exact hK _ _ (h _ _ w hown ⟨rfl, rfl, rfl, Nat.le_refl _, fun _ _ _ => rfl⟩)
set_option maxRecDepth 100000 in
set_option maxHeartbeats 4000000 in
theorem law_small (v0 v1 : Value) (l os : List Int) (m : Nat) (w : World) (hg : GL w) (hv : I8 w v0 l) (hu : U8 w v1 os) (h40 : l.length ≤ 40) (hx : ∀ x ∈ l, -128 ≤ x ∧ x ≤ 127) (ho : ¬ 2147483647 < os.length) (hm : m < 256) :
    Calls Tryz.prog 3 #[v0, v1, .int .u8 m] w fun e w' => e = .returned (.bool true) ∧ Kp [] w w' := by
  obtain ⟨s0, c0, rfl, hc0⟩ := hv
  obtain ⟨s1, c1, rfl, hc1⟩ := hu
  obtain ⟨n, hn⟩ : ∃ n, n = l.length := ⟨_, rfl⟩
  obtain ⟨n1, hn1⟩ : ∃ n1, n1 = os.length := ⟨_, rfl⟩
  rw [← hn, ← hn1]
  have t0 : ¬ ((2147483647 : Int) < (n : Int)) := by omega
  have t1 : ¬ ((2147483647 : Int) < (n1 : Int)) := by omega
  have t2 : ¬ ((40 : Int) < (n : Int)) := by omega
  have H := Hid.mk (And.intro hg (And.intro hc0 (And.intro hc1 (And.intro hn (And.intro hn1 (And.intro h40 (And.intro hx (And.intro ho hm))))))))
  clear hg hc0 hc1 hn hn1 h40 hx ho hm
  go_enter Tryz.func3, Tryz.ntmps3
  go_upto_region 5 with (fail)
  obtain ⟨dp, hdp⟩ : ∃ dp, dp = w.heap.size := ⟨_, rfl⟩
  obtain ⟨w1, hw1⟩ : ∃ w1, w1 = w.alloc (.cells #[.int .u8 m] 5) := ⟨_, rfl⟩
  rw [← hw1, ← hdp]
  have hd1 : w1.heap[dp]? = some (.cells #[.int .u8 m] 5) := by rw [hw1, hdp]; exact heap_alloc_same _ _
  have hk1 : Kp [] w w1 := by rw [hw1]; exact (Kp.refl _ _).alloc _
  have H1 := Hid.mk (And.intro hd1 hk1)
  clear hd1 hk1 hw1 hdp
  go_wp2_with (at_builtin; refine wpList_appI8 rfl _ _ rfl w1.heap.size w1.heap.size rfl ⟨rfl, .inr ⟨w1.heap.size, 0, #[], rfl, Nat.le_refl _, heap_alloc_same _ _, Nat.le_refl _, by decide, rfl, rfl⟩⟩ s0 n c0 l rfl H.out.2.2.2.1.symm (by have := H.out; omega) (fun h0 => by obtain ⟨g, p, h1, h2, h3⟩ := H.out.2.1 (by have := H.out.2.2.2.1; omega); exact ⟨g, p, h1, fun i hi => (H1.out.2.alloc _).cell (h3 i hi) (by simp)⟩) (by simp) ?_; intro sk ck w2 hown2 hgr2; have H2 := Hid.mk (And.intro hown2 hgr2); clear hown2 hgr2)
  have hk2 : Kp [] w1 w2 := ((Kp.refl _ _).alloc _).grown H2.out.2 (fun j hj => by cases hj; exact .inr (Nat.le_refl _))
  go_loopg [34] n1 (fun f vi wr => ∃ (i : Nat) (kl : List Int), vi = .int .i64 i ∧ f + i = n1 ∧ kl.Perm l ∧ wr.ownsRow w1.heap.size 25 1 (.slice sk n ck) n (kl.map (Value.int .i8)) ∧ Kp [] w1 wr)
  case atStart => exact ⟨0, l, rfl, by omega, List.Perm.refl _, H2.out.1, hk2⟩
  case round =>
    clear hk2
    obtain ⟨i, kl, rfl, hfi, hperm, hown, hk⟩ := hrel
    have H3 := Hid.mk (And.intro hperm (And.intro hown hk))
    clear hperm hown hk
    have hkn : kl.length = n := by rw [H3.out.1.length_eq]; exact H.out.2.2.2.1.symm
    have Hkn := Hid.mk hkn
    clear hkn
    have e5 : IntKind.i64.wrap ((i : Int) + 1) = (i : Int) + 1 := IntWalk.i64_in _ (by have := H.out; omega)
    by_cases hin : i < n1
    · obtain ⟨g, p, rfl, hgl, hcs⟩ := H.out.2.2.1 (by have := H.out.2.2.2.2.1; omega)
      have hio : i < os.length := by have := H.out.2.2.2.2.1; omega
      obtain ⟨hcell, hx0, hx1⟩ := hcs i hio
      obtain ⟨y, hy⟩ : ∃ y : Nat, os[i] = (y : Int) := ⟨os[i].toNat, by omega⟩
      rw [hy] at hcell hx1
      have hc := (H1.out.2.trans H3.out.2.2).cell hcell (by simp)
      have hlt : (i : Int) < (n1 : Int) := by omega
      have Hy := Hid.mk hx1
      clear hcs hcell hx0 hy hgl hio hx1
      by_cases hn0 : n = 0
      · have t3 : ¬ ((0 : Int) < (n : Int)) := by omega
        have Hn0 := Hid.mk hn0
        clear hn0
        go_wp2_with fail
        rw [show (i : Int) + 1 = ((i + 1 : Nat) : Int) by simp]
        go_roundg (n1 - (i + 1))
        case measure => omega
        case rel => exact ⟨i + 1, kl, rfl, by omega, H3.out⟩
      · have t3 : (0 : Int) < (n : Int) := by omega
        by_cases hi100 : i < 100
        · have t4 : (i : Int) < 100 := by omega
          obtain ⟨kg, rfl, hkg1, hkg2, hks⟩ := own_cells H3.out.2.1 (by omega)
          have e1 : (i : Int).tmod (n : Int) = ((i % n : Nat) : Int) := by rw [Int.tmod_eq_emod_of_nonneg (by omega)]; simp
          have e2 : (y : Int).tmod (n : Int) = ((y % n : Nat) : Int) := by rw [Int.tmod_eq_emod_of_nonneg (by omega)]; simp
          obtain ⟨a, ha⟩ : ∃ a, a = i % n := ⟨_, rfl⟩
          obtain ⟨b, hb⟩ : ∃ b, b = y % n := ⟨_, rfl⟩
          have han : a < n := by rw [ha]; exact Nat.mod_lt _ (by omega)
          have hbn : b < n := by rw [hb]; exact Nat.mod_lt _ (by omega)
          rw [← ha] at e1
          rw [← hb] at e2
          have hak : a < kl.length := by rw [Hkn.out]; exact han
          have hbk : b < kl.length := by rw [Hkn.out]; exact hbn
          have ca : wr.cell? ⟨kg, a, none⟩ = some (.int .i8 kl[a]) := by rw [hks a han]; simp
          have cb : wr.cell? ⟨kg, b, none⟩ = some (.int .i8 kl[b]) := by rw [hks b hbn]; simp
          have e3 : IntKind.i64.wrap (y : Int) = (y : Int) := IntWalk.i64_in _ (by have := Hy.out; omega)
          have e4 : IntKind.i64.wrap (a : Int) = (a : Int) := IntWalk.i64_in _ (by have := H.out; omega)
          have e6 : IntKind.i64.wrap (b : Int) = (b : Int) := IntWalk.i64_in _ (by have := H.out; omega)
          have hz : ((n : Int) == 0) = false := by simp; omega
          have ff := own_frozen H3.out.2.1
          have hla : (a : Int) < (n : Int) := by omega
          have hlb : (b : Int) < (n : Int) := by omega
          obtain ⟨xa, hxa⟩ : ∃ xa, xa = kl[a] := ⟨_, rfl⟩
          obtain ⟨xb, hxb⟩ : ∃ xb, xb = kl[b] := ⟨_, rfl⟩
          rw [← hxa] at ca
          rw [← hxb] at cb
          have Hab := Hid.mk (show ((kl.set a xb).set b xa).Perm l by rw [hxa, hxb]; exact (swap_perm hak hbk).trans H3.out.1)
          have Hkg := Hid.mk hkg1
          clear hks ha hb hak hbk hxa hxb hkg1 hkg2 hn0
          go_wp2_with fail
          go_quiet (fail)
          go_wp2_with fail
          obtain ⟨wq, hwq⟩ : ∃ wq, wq = wr.drewN nq := ⟨_, rfl⟩
          replace ca : wq.cell? ⟨kg, a, none⟩ = some (.int .i8 xa) := by rw [hwq]; exact ca
          replace cb : wq.cell? ⟨kg, b, none⟩ = some (.int .i8 xb) := by rw [hwq]; exact cb
          replace ff : ∀ i, wq.frozen? ⟨kg, i, none⟩ = false := by rw [hwq]; exact ff
          have Hq := Hid.mk (And.intro (show wq.ownsRow w1.heap.size 25 1 (.slice (some ⟨kg, 0, none⟩) n ck) n (kl.map (Value.int .i8)) by rw [hwq]; exact H3.out.2.1) (show Kp [] w1 wq by rw [hwq]; exact H3.out.2.2.drewN nq))
          rw [← hwq]
          clear hwq hz e1 e2 e3 e4 e6
          by_cases hab : a = b
          · subst hab
            go_region
            go_wp2_with fail
            rw [show (i : Int) + 1 = ((i + 1 : Nat) : Int) by simp]
            go_roundg (n1 - (i + 1))
            case measure => omega
            case rel =>
              refine ⟨i + 1, (kl.set a xa).set a xa, rfl, by omega, (by have h := Hab.out; rw [List.set_set] at h ⊢; exact h), ?_, ((Hq.out.2.setCell _ (.inr Hkg.out)).setCell _ (.inr Hkg.out)).drew⟩
              have h := own_set (own_set Hq.out.1 (i := a) (Value.int .i8 xa)) (i := a) (Value.int .i8 xa)
              rw [← List.map_set, ← List.map_set] at h
              exact h
          · have hba : ¬ b = a := fun e => hab e.symm
            go_region
            go_wp2_with fail
            rw [show (i : Int) + 1 = ((i + 1 : Nat) : Int) by simp]
            go_roundg (n1 - (i + 1))
            case measure => omega
            case rel =>
              refine ⟨i + 1, (kl.set a xb).set b xa, rfl, by omega, Hab.out, ?_, ((Hq.out.2.setCell _ (.inr Hkg.out)).setCell _ (.inr Hkg.out)).drew⟩
              have h := own_set (own_set Hq.out.1 (i := a) (Value.int .i8 xb)) (i := b) (Value.int .i8 xa)
              rw [← List.map_set, ← List.map_set] at h
              exact h
        · have t4 : ¬ ((i : Int) < 100) := by omega
          have Hn0 := Hid.mk hn0
          clear hn0
          go_wp2_with fail
          rw [show (i : Int) + 1 = ((i + 1 : Nat) : Int) by simp]
          go_roundg (n1 - (i + 1))
          case measure => omega
          case rel => exact ⟨i + 1, kl, rfl, by omega, H3.out⟩
    · obtain rfl : i = n1 := by omega
      have hlt : ¬ (i : Int) < (i : Int) := by omega
      have Hi := Hid.mk (show I8 wr (.slice sk n ck) kl from ⟨sk, ck, by rw [Hkn.out], fun h0 => by
        obtain ⟨kg, h1, h2, h3, h4⟩ := own_cells H3.out.2.1 (by rw [← Hkn.out]; exact h0)
        exact ⟨kg, 0, h1, h3, fun j hj => by rw [Nat.zero_add, h4 j (by rw [← Hkn.out]; exact hj)]; simp⟩⟩)
      have Hl := Hid.mk (show I8 wr (.slice s0 n c0) l from (show I8 w (.slice s0 n c0) l from ⟨s0, c0, by rw [H.out.2.2.2.1], H.out.2.1⟩).kept (H1.out.2.trans H3.out.2.2))
      have Hd := Hid.mk (H3.out.2.2.cell (blk_cell H1.out.1 0) (by simp))
      have hxk : ∀ x ∈ kl, -128 ≤ x ∧ x ≤ 127 := fun x hx => H.out.2.2.2.2.2.2.1 x (H3.out.1.mem_iff.1 hx)
      have Hxk := Hid.mk (And.intro hxk (show kl.length ≤ 40 by rw [Hkn.out]; have := H.out; omega))
      clear hxk
      go_wp2_with fail
      have K0 := Hid.mk (Kp.refl [] wr)
      refine (writeLaw_any (.slice s0 n c0) l dp m wr (Hl.out.kept K0.out) (by have := H.out; omega) H.out.2.2.2.2.2.2.1 (K0.out.cell Hd.out (by simp)) (by have := H.out; omega)).mono ?_
      rintro e x1 ⟨rfl, hk⟩
      have Kx1 := Hid.mk (K0.out.trans hk)
      clear hk
      go_wp2_with fail
      refine (writeLaw_any (.slice sk n ck) kl dp m x1 (Hi.out.kept Kx1.out) Hxk.out.2 Hxk.out.1 (Kx1.out.cell Hd.out (by simp)) (by have := H.out; omega)).mono ?_
      rintro e x2 ⟨rfl, hk⟩
      have Kx2 := Hid.mk (Kx1.out.trans hk)
      clear hk
      go_wp2_with fail
      refine (lists_diff H3.out.1.symm (by have := H.out; omega) H.out.2.2.2.2.2.2.1 (m % 4) (by omega) x2).mono ?_
      rintro e x3 ⟨rfl, hk⟩
      have Kx3 := Hid.mk (Kx2.out.trans hk)
      clear hk
      go_wp2_with fail
      refine (writeLaw_any (.slice sk n ck) kl dp m x3 (Hi.out.kept Kx3.out) Hxk.out.2 Hxk.out.1 (Kx3.out.cell Hd.out (by simp)) (by have := H.out; omega)).mono ?_
      rintro e x4 ⟨rfl, hk⟩
      have Kx4 := Hid.mk (Kx3.out.trans hk)
      clear hk
      go_wp2_with fail
      refine (writeLaw_any (.slice s0 n c0) l dp m x4 (Hl.out.kept Kx4.out) (by have := H.out; omega) H.out.2.2.2.2.2.2.1 (Kx4.out.cell Hd.out (by simp)) (by have := H.out; omega)).mono ?_
      rintro e x5 ⟨rfl, hk⟩
      have Kx5 := Hid.mk (Kx4.out.trans hk)
      clear hk
      go_wp2_with fail
      refine (lists_diff H3.out.1 Hxk.out.2 Hxk.out.1 (m % 4) (by omega) x5).mono ?_
      rintro e x6 ⟨rfl, hk⟩
      have Kx6 := Hid.mk (Kx5.out.trans hk)
      clear hk
      go_wp2_with fail
      have Kw := Hid.mk ((H1.out.2.trans H3.out.2.2).trans Kx6.out)
      refine (known_any x6 (H.out.1.kept Kw.out (by simp) (by simp))).mono ?_
      rintro e x7 ⟨rfl, hk⟩
      have K7 := Hid.mk (Kw.out.trans hk)
      clear hk
      go_wp2_with fail
      go_ret
      exact ⟨rfl, K7.out⟩
end Go.Proofs.YtpigmadopflfkaaGreatDoor
