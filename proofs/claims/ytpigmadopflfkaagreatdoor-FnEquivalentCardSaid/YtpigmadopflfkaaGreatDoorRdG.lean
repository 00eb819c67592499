/- Unmarshal at the text of a plain document gives that document. Condition: the text is shorter than a million bytes. -/
import Derived.Test.YtpigmadopflfkaaGreatDoorRdF
namespace Go.Proofs.YtpigmadopflfkaaGreatDoor
open Go.RowKit Go.BigFrame

/-- Block g holds these bytes from its head. -/
def Byt (w : World) (g : Nat) (cs : List Nat) : Prop := ∀ i, i < cs.length → w.cell? ⟨g, i, none⟩ = some (.int .u8 (cs.getD i 0 : Nat))
theorem Byt.kept {w w' : World} {g : Nat} {cs : List Nat} {S : List Nat} (h : Byt w g cs) (hk : Kp S w w') (hn : g ∉ S) : Byt w' g cs := fun i hi => hk.cell (h i hi) hn
theorem str_byt {w : World} {g cap : Nat} {cs : List Nat} (h : Byt w g cs) :
    (convert 23 9 (.slice (some ⟨g, 0, none⟩) cs.length cap)).run Tryz.prog w = .ok (.string (txt cs)) w := by
  have e : txt cs = strOfNums (cs.map fun (n : Nat) => (n : Int)) := by
    simp [txt, strOfNums]
  rw [e]
  refine run_convert_bytes_arg w 23 5 Tryz.underlying23 Tryz.underlying5 g 0 cs.length cap _ (by simp) ?_ 9 Tryz.underlying9
  intro i hi
  rw [Nat.zero_add, h i hi]
  simp [List.getD_eq_getElem?_getD, hi]

theorem enc_lt : ∀ {a : J}, JV a → ∀ d ∈ enc a, d < 256 := by
  have hn : ∀ x, NumOk x → ∀ d ∈ ncodes x, d < 256 := by
    intro x hx d hd
    simp only [ncodes, List.mem_append, List.mem_map] at hd
    rcases hd with hd | ⟨q, hq, rfl⟩
    · split at hd
      · simp at hd; omega
      · simp at hd
    · have := hx.nine q hq; omega
  have hl : ∀ l : List Num, (∀ x ∈ l, NumOk x) → ∀ d ∈ encL l, d < 256 := by
    intro l
    induction l with
    | nil => intro _ d hd; simp [encL] at hd
    | cons x r ih =>
      intro h d hd
      cases r with
      | nil => exact hn x (h x (by simp)) d hd
      | cons y r =>
        rw [encL_cons (List.cons_ne_nil y r)] at hd
        simp only [List.mem_append, List.mem_cons] at hd
        rcases hd with hd | rfl | hd
        · exact hn x (h x (by simp)) d hd
        · omega
        · exact ih (fun z hz => h z (by simp at hz ⊢; exact .inr hz)) d hd
  intro a
  induction a with
  | num x => exact fun h d hd => hn x (NumV.ok h) d hd
  | arr l =>
    intro h d hd
    simp only [enc, List.mem_cons, List.mem_append, List.not_mem_nil, or_false] at hd
    rcases hd with rfl | hd | rfl
    · omega
    · exact hl l (fun x hx => (h x hx).ok) d hd
    · omega
  | obj1 k a ih =>
    intro h d hd
    simp only [enc, List.mem_cons, List.mem_append, List.not_mem_nil, or_false] at hd
    have hk := h.1
    unfold keyOk at hk
    rcases hd with rfl | rfl | rfl | rfl | rfl | hd | rfl
    any_goals omega
    exact ih h.2 d hd
  | obj2 k a m b iha ihb =>
    intro h d hd
    simp only [enc, List.mem_cons, List.mem_append, List.not_mem_nil, or_false] at hd
    have hk := h.1
    have hm := h.2.1
    unfold keyOk at hk hm
    rcases hd with rfl | rfl | rfl | rfl | rfl | hd | rfl | rfl | rfl | rfl | rfl | hd | rfl
    any_goals omega
    · exact iha h.2.2.2.1 d hd
    · exact ihb h.2.2.2.2 d hd

theorem Rep.one {B : Nat} {w : World} {a : J} {v : Value} (h : Rep B w a v) : v.oneCell' = true := by
  cases a with
  | num x => cases h; rfl
  | arr l => obtain ⟨_, _, rfl, _⟩ := h; rfl
  | obj1 k a => obtain ⟨_, _, rfl, _⟩ := h; rfl
  | obj2 k a m b => obtain ⟨_, _, _, rfl, _⟩ := h; rfl
theorem Rep.iface {B : Nat} {w : World} {a : J} {v : Value} (h : Rep B w a v) : ∃ t x, v = .iface t x := by
  cases a with
  | num x => cases h; exact ⟨_, _, rfl⟩
  | arr l => obtain ⟨_, _, rfl, _⟩ := h; exact ⟨_, _, rfl⟩
  | obj1 k a => obtain ⟨_, _, rfl, _⟩ := h; exact ⟨_, _, rfl⟩
  | obj2 k a m b => obtain ⟨_, _, _, rfl, _⟩ := h; exact ⟨_, _, rfl⟩
def ReadQ2 (p : Nat) (a : J) (w w' : World) : Prop := ∃ v, w'.heap[p]? = some (.cells #[v] 20) ∧ Rep w.heap.size w' a v ∧ Kp [p] w w'

set_option maxHeartbeats 1000000 in
theorem read_any (a : J) (g p cap : Nat) (old : Value) (w : World) (hv : JV a) (hh : hgt a < 8000) (hl : (enc a).length < 1000000) (hb : Byt w g (enc a)) (hp : w.heap[p]? = some (.cells #[old] 20)) :
    Calls Tryz.prog 47 #[.slice (some ⟨g, 0, none⟩) (enc a).length cap, .pointer (some ⟨p, 0, none⟩), .bool false] w fun e w' => e = .returned .nilIface ∧ ReadQ2 p a w w' := by
  have h256 := enc_lt hv
  have hs : (txt (enc a)).size < 1000000 := by rw [txt_size]; exact hl
  have hat := txt_at h256
  have hst : Stop (txt (enc a)) (0 + (enc a).length) := fun h => by rw [txt_size] at h; omega
  have hck := fun W => check_any a (txt (enc a)) W hs (by omega) hv.ok hat (txt_size _)
  have Hck := Hid.mk hck
  have H := Hid.mk (And.intro hv (And.intro hs (And.intro hat hst)))
  have Hp := Hid.mk hp
  have hcv := str_byt (cap := cap) hb
  clear hck h256 hat hst hb hp hv hs hl
  generalize txt (enc a) = s at hcv Hck H
  go_enter Tryz.func47, Tryz.ntmps47
  go_wp2_with fail
  refine (Hck.out _).mono ?_
  rintro e w' ⟨rfl, rfl⟩
  go_wp2_with fail
  obtain ⟨w1, hw1⟩ : ∃ w1, w1 = w.alloc (Obj.cells #[Value.string s, Value.int IntKind.i64 0, Value.bool false, Value.nilIface] 127) := ⟨_, rfl⟩
  rw [← hw1]
  have hr1 : Rdr w1 w.heap.size s 0 := by rw [hw1]; exact heap_alloc_same _ _
  have Hk1 : Hid (Kp [] w w1) := Hid.mk (by rw [hw1]; exact (Kp.refl _ _).alloc _)
  clear hw1 hcv
  refine (value_any a s w.heap.size 0 w1 H.out.2.1 H.out.1 H.out.2.2.1 H.out.2.2.2 hr1).mono ?_
  rintro e w2 ⟨v, rfl, hrep, hr2, hk2⟩
  obtain ⟨ty, x, rfl⟩ := hrep.iface
  have hpl := lt_of_heap Hp.out
  have hp2 : w2.heap[p]? = some (.cells #[old] 20) := hk2.at (Hk1.out.at Hp.out (by simp)) (by simp; omega)
  have hcp := blk_cell hp2
  have hfp := blk_frozen hp2
  have hcr := blk_cell hr2
  have H2 := Hid.mk (And.intro hrep (And.intro hk2 hp2))
  have hne1 : p ≠ w.heap.size := by omega
  have hne2 : w.heap.size ≠ p := by omega
  have hl1 := lt_of_heap hr1
  have Hl1 := Hid.mk hl1
  clear hrep hk2 hp2 hr2 hr1 hl1
  go_wp2_with fail
  go_ret
  have hk3 : Kp [p] w2 (w2.setCell ⟨p, 0, none⟩ (.iface ty x)) := (Kp.refl _ _).setCell _ (.inl (by simp))
  refine ⟨rfl, .iface ty x, ?_, ?_, ?_⟩
  · rw [heap_setCell_same H2.out.2.2]; rfl
  · refine Rep.mono (B := w1.heap.size) Hk1.out.size (Rep.kept hk3 (fun j hj => ?_) H2.out.1)
    have := Hl1.out
    simp at hj
    omega
  · have h1 : Kp [p] w w1 := Hk1.out.mono (by simp)
    have h2 : Kp [p] w w2 := h1.trans' H2.out.2.1 (fun j hj hjl => by simp at hj; omega)
    exact h2.trans hk3

set_option maxHeartbeats 1000000 in
theorem unm_any (a : J) (g p cap : Nat) (old : Value) (w : World) (hv : JV a) (hh : hgt a < 8000) (hl : (enc a).length < 1000000) (hb : Byt w g (enc a)) (hp : w.heap[p]? = some (.cells #[old] 20)) :
    Calls Tryz.prog 30 #[.slice (some ⟨g, 0, none⟩) (enc a).length cap, .pointer (some ⟨p, 0, none⟩)] w fun e w' => e = .returned .nilIface ∧ ReadQ2 p a w w' := by
  have H := Hid.mk (read_any a g p cap old w hv hh hl hb hp)
  clear hv hh hl hb hp
  go_enter Tryz.func30, Tryz.ntmps30
  go_wp2_with fail
  refine H.out.mono ?_
  rintro e w1 ⟨rfl, hq⟩
  have Hq := Hid.mk hq
  clear hq
  go_wp2_with fail
  go_ret
  exact ⟨rfl, Hq.out⟩
end Go.Proofs.YtpigmadopflfkaaGreatDoor
