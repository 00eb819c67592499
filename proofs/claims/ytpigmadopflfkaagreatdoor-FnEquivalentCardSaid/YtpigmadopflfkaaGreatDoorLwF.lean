/- The law's inner function write: it writes a list of small numbers, in up to three objects. Conditions: at most forty numbers. -/
import Derived.Test.YtpigmadopflfkaaGreatDoorLwE
namespace Go.Proofs.YtpigmadopflfkaaGreatDoor
open Go.RowKit Go.BigFrame
/-- This value is a slice of these small numbers. -/
def I8 (w : World) (v : Value) (l : List Int) : Prop :=
  ∃ sa cap, v = .slice sa l.length cap ∧ (0 < l.length → ∃ g o, sa = some ⟨g, o, none⟩ ∧ g < w.heap.size ∧ ∀ i (hi : i < l.length), w.cell? ⟨g, o + i, none⟩ = some (.int .i8 l[i]))
theorem I8.kept {w w' : World} {v : Value} {l : List Int} (h : I8 w v l) (hk : Kp [] w w') : I8 w' v l := by
  obtain ⟨sa, cap, h1, h2⟩ := h
  refine ⟨sa, cap, h1, fun h0 => ?_⟩
  obtain ⟨g, o, h3, h4, h5⟩ := h2 h0
  exact ⟨g, o, h3, Nat.lt_of_lt_of_le h4 hk.size, fun i hi => hk.cell (h5 i hi) (by simp)⟩
def wrapJ : Nat → J → J
  | 0, a => a
  | j + 1, a => .obj2 97 (wrapJ j a) 98 (.num (false, [1]))
theorem wrapJ_len (a : J) : ∀ j, (enc (wrapJ j a)).length = (enc a).length + 12 * j
  | 0 => rfl
  | j + 1 => by
    have ih := wrapJ_len a j
    simp [wrapJ, enc, ncodes, ih]
    omega
theorem wrapJ_enc (j : Nat) (a : J) : [123, 34, 97, 34, 58] ++ enc (wrapJ j a) ++ [44, 34, 98, 34, 58, 49, 125] = enc (wrapJ (j + 1) a) := by
  simp [wrapJ, enc, ncodes]
theorem digs_len (n : Nat) : (digs n).length ≤ 3 := by
  unfold digs
  split
  · simp
  · split <;> simp
theorem numOf_len (x : Int) : (ncodes (numOf x)).length ≤ 4 := by
  have := digs_len x.natAbs
  unfold ncodes numOf
  simp only [List.length_append, List.length_map]
  split <;> simp <;> omega

set_option maxRecDepth 100000 in
set_option maxHeartbeats 2000000 in
theorem writeLaw_any (v : Value) (l : List Int) (dp m : Nat) (w : World) (hv : I8 w v l) (hl : l.length ≤ 40) (hx : ∀ x ∈ l, -128 ≤ x ∧ x ≤ 127) (hd : w.cell? ⟨dp, 0, none⟩ = some (.int .u8 m)) (hm : m < 256) :
    Calls Tryz.prog 5 #[v, .pointer (some ⟨dp, 0, none⟩)] w fun e w' => e = .returned (.string (txt (enc (wrapJ (m % 4) (.arr (l.map numOf)))))) ∧ Kp [] w w' := by
  obtain ⟨sa, cap, rfl, hcs⟩ := hv
  obtain ⟨n, hn⟩ : ∃ n, n = l.length := ⟨_, rfl⟩
  have hdl := World.block_lt_of_cell? _ _ hd
  have H := Hid.mk (And.intro hcs (And.intro hx (And.intro hd (And.intro hn hl))))
  rw [← hn]
  have hn40 : n ≤ 40 := by omega
  clear hcs hx hd hn hl hdl
  go_enter Tryz.func5, Tryz.ntmps5
  go_wp2_with fail
  go_loopg [4, 10] n (fun f vo vi wr => ∃ (i : Nat) (so : Option Addr) (scap : Nat), vi = .int .i64 i ∧ f + i = n ∧ vo = .slice so i scap ∧ wr.ownsRow w.heap.size 9 1 (.slice so i scap) i ((l.take i).map fun x => .string (txt (ncodes (numOf x)))) ∧ Kp [] w wr)
  case atStart => exact ⟨0, none, 0, rfl, by omega, rfl, ⟨rfl, .inl ⟨rfl, rfl⟩⟩, Kp.refl _ _⟩
  case round =>
    obtain ⟨i, so, scap, rfl, hfi, rfl, hown, hk⟩ := hrel
    have H1 := Hid.mk (And.intro hown hk)
    clear hown hk
    by_cases hin : i < n
    · obtain ⟨g, o, rfl, hgl, hcell⟩ := H.out.1 (by have := H.out.2.2.2.1; omega)
      have hil : i < l.length := by have := H.out.2.2.2.1; omega
      have hc := H1.out.2.cell (hcell i (by have := H.out.2.2.2.1; omega)) (by simp)
      have hlt : (i : Int) < (n : Int) := by omega
      have hxx := H.out.2.1 (l[i]) (List.getElem_mem hil)
      have htk : l.take (i + 1) = l.take i ++ [l[i]] := by rw [List.take_add_one, List.getElem?_eq_getElem hil]; rfl
      obtain ⟨x, hxd⟩ : ∃ x, x = l[i] := ⟨_, rfl⟩
      rw [← hxd] at hc hxx htk
      have e5 : IntKind.i64.wrap ((i : Int) + 1) = (i : Int) + 1 := IntWalk.i64_in _ (by omega)
      have e6 : IntKind.i64.wrap x = x := IntWalk.i64_in _ (by omega)
      have Hx := Hid.mk (And.intro hxx htk)
      clear hcell hgl hil hxx htk hxd
      go_wp2_with fail
      refine (digits_any x (by have := Hx.out.1; omega) (by have := Hx.out.1; omega) wr).mono ?_
      rintro e w2 ⟨rfl, k, hw2⟩
      have hown2 : w2.ownsRow w.heap.size 9 1 (.slice so i scap) i ((l.take i).map fun x => .string (txt (ncodes (numOf x)))) := by rw [hw2]; exact H1.out.1
      have hk2 : Kp [] w w2 := by rw [hw2]; exact H1.out.2.drewN k
      have H2 := Hid.mk (And.intro hown2 hk2)
      clear hown2 hk2 hw2 hc
      go_wp2_with (at_builtin; refine wpList_appStr rfl _ _ rfl w.heap.size so i scap _ rfl (H2.out.1.alloc _) w2.heap.size 1 (txt (ncodes (numOf x))) rfl (by simp) (by omega) (by have := H2.out.2.size; simp; omega) ?_; intro a2 c2 w9 hown9 hgr9; have H9 := Hid.mk (And.intro hown9 hgr9); clear hown9 hgr9)
      rw [show (i : Int) + 1 = ((i + 1 : Nat) : Int) by simp]
      go_roundg (n - (i + 1))
      case measure => omega
      case rel =>
        refine ⟨i + 1, a2, c2, rfl, by omega, rfl, ?_, (H2.out.2.alloc _).grown H9.out.2 (fun j hj => .inr (H2.out.1.lt j hj).1)⟩
        rw [Hx.out.2, List.map_append]
        exact H9.out.1
    · obtain rfl : i = n := by omega
      have hlt : ¬ (i : Int) < (i : Int) := by omega
      have ht : l.take i = l := List.take_of_length_le (by have := H.out.2.2.2.1; omega)
      rw [ht] at H1
      have ho := H1.out.1
      have hmm : (l.map fun x => (Value.string (txt (ncodes (numOf x))))) = (l.map numOf).map fun x => .string (txt (ncodes x)) := by simp [Function.comp_def]
      rw [hmm] at ho
      have hlist := list_any w.heap.size i scap so (l.map numOf) wr (by have := H.out.2.2.2.1; simp; omega) (by intro y hy; obtain ⟨z, hz, rfl⟩ := List.mem_map.1 hy; exact numOf_len z) (by omega) ho
      have hdc := H1.out.2.cell H.out.2.2.1 (by simp)
      have e7 : ((m : Int)).tmod 4 = ((m % 4 : Nat) : Int) := by rw [Int.tmod_eq_emod_of_nonneg (by omega)]; omega
      have e8 : IntKind.i64.wrap (m : Int) = (m : Int) := IntWalk.i64_in _ (by omega)
      have e9 : IntKind.i64.wrap ((m % 4 : Nat) : Int) = ((m % 4 : Nat) : Int) := IntWalk.i64_in _ (by omega)
      obtain ⟨q, hq⟩ : ∃ q, q = m % 4 := ⟨_, rfl⟩
      rw [← hq] at e7 e9
      have Hq := Hid.mk (And.intro hq (show q < 4 by omega))
      have Hlist := Hid.mk hlist
      have hlen : (encL (l.map numOf)).length ≤ 1000 := by
        rw [← jn_enc]
        have := jn_len ((l.map numOf).map ncodes) (by intro y hy; obtain ⟨z, hz, rfl⟩ := List.mem_map.1 hy; obtain ⟨u, hu, rfl⟩ := List.mem_map.1 hz; exact numOf_len u)
        simp only [List.length_map] at this
        have := H.out.2.2.2.1
        omega
      have Hlen := Hid.mk (show (enc (.arr (l.map numOf))).length ≤ 1002 by simp [enc]; omega)
      clear hlist hmm ho ht hq hlen
      go_wp2_with fail
      refine Hlist.out.mono ?_
      rintro e w' ⟨rfl, rfl⟩
      go_wp2_with fail
      obtain ⟨wo, hwo⟩ : ∃ wo : World, wo = wr := ⟨_, rfl⟩
      have hk := H1.out.2
      rw [← hwo] at hk
      rw [← hwo]
      have Hk := Hid.mk hk
      clear hk hwo
      go_loopg [7, 26] q (fun f vs vj wr => ∃ j : Nat, vj = .int .i64 j ∧ f + j = q ∧ vs = .string (txt (enc (wrapJ j (.arr (l.map numOf))))) ∧ wo = wr)
      case atStart => exact ⟨0, rfl, by omega, rfl, rfl⟩
      case round =>
        obtain ⟨j, rfl, hfj, rfl, rfl⟩ := hrel
        by_cases hjq : j < q
        · have hlt : (j : Int) < (q : Int) := by omega
          have e5 : IntKind.i64.wrap ((j : Int) + 1) = (j : Int) + 1 := IntWalk.i64_in _ (by have := Hq.out.2; omega)
          have hw := wrapJ_len (.arr (l.map numOf)) j
          have a1 := fun W => sadd [123, 34, 97, 34, 58] (enc (wrapJ j (.arr (l.map numOf)))) (by have := Hlen.out; have := Hq.out.2; simp; omega) W
          have a2 := fun W => sadd ([123, 34, 97, 34, 58] ++ enc (wrapJ j (.arr (l.map numOf)))) [44, 34, 98, 34, 58, 49, 125] (by have := Hlen.out; have := Hq.out.2; simp; omega) W
          rw [wrapJ_enc] at a2
          obtain ⟨mid, hmid⟩ : ∃ mid, mid = [123, 34, 97, 34, 58] ++ enc (wrapJ j (.arr (l.map numOf))) := ⟨_, rfl⟩
          rw [← hmid] at a1 a2
          have a1' : ∀ W, (Op.stringOp .add { data := #[123, 34, 97, 34, 58] } (txt (enc (wrapJ j (.arr (l.map numOf)))))).run Tryz.prog W = .ok (.string (txt mid)) W := a1
          have a2' : ∀ W, (Op.stringOp .add (txt mid) { data := #[44, 34, 98, 34, 58, 49, 125] }).run Tryz.prog W = .ok (.string (txt (enc (wrapJ (j + 1) (.arr (l.map numOf)))))) W := a2
          clear a1 a2 hmid hw
          go_wp2_with fail
          rw [show (j : Int) + 1 = ((j + 1 : Nat) : Int) by simp]
          go_roundg (q - (j + 1))
          case measure => omega
          case rel => exact ⟨j + 1, rfl, by omega, rfl, rfl⟩
        · obtain rfl : j = q := by omega
          have hlt : ¬ (j : Int) < (j : Int) := by omega
          go_wp2_with fail
          go_ret
          exact ⟨by rw [Hq.out.1]; rfl, Hk.out⟩
end Go.Proofs.YtpigmadopflfkaaGreatDoor
