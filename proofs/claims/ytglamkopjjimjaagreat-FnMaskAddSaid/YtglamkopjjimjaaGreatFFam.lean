/- The families of registers. -/
import Derived.Test.YtglamkopjjimjaaGreatFReg
set_option linter.unusedVariables false
set_option linter.unusedSimpArgs false
namespace Go.Proofs.YtglamkopjjimjaaGreat
open Go.RowKit

set_option maxHeartbeats 800000 in
theorem newregister_c (w : World) (f : Addr) (s i : BitVec 16) (nm : ByteArray) :
    Calls Tryz.prog 47 #[.pointer (some f), u16v s, u16v i, .string nm, .slice none 0 0] w fun e w' => e = .returned (.agg #[.pointer (some f), u16v i, .string nm, u8v 0#8, u16v s]) ∧ Fr Non w w' := by
  have h0 : Value.int .u8 0 = u8v 0#8 := rfl
  go_enter Tryz.func47, Tryz.ntmps47
  go_wp2
  refine wp_loop_rounds 1 ?_
  rw [rounds_succ]
  go_wp2
  exact bodyPost_ret (v := .agg #[.pointer (some f), u16v i, .string nm, u8v 0#8, u16v s]) (by simp [results, Tryz.results47, go_sem]) rfl ⟨rfl, ((Fr.refl _ _).alloc _).alloc _⟩

set_option maxHeartbeats 1600000 in
theorem newregister1_c (w : World) (f : Addr) (s i : BitVec 16) (nm : ByteArray) (b : Nat) (x : BitVec 8) (hc : w.cell? ⟨b, 0, none⟩ = some (u8v x)) :
    Calls Tryz.prog 47 #[.pointer (some f), u16v s, u16v i, .string nm, .slice (some ⟨b, 0, none⟩) 1 1] w fun e w' => e = .returned (.agg #[.pointer (some f), u16v i, .string nm, u8v (0#8 ||| x), u16v s]) ∧ Fr Non w w' := by
  have h0 : Value.int .u8 0 = u8v 0#8 := rfl
  have hlt := World.block_lt_of_cell? w _ hc
  go_enter Tryz.func47, Tryz.ntmps47
  go_wp2
  refine wp_loop_rounds 2 ?_
  rw [rounds_succ]
  go_wp2
  rw [rounds_succ]
  go_wp2
  exact bodyPost_ret (v := .agg #[.pointer (some f), u16v i, .string nm, u8v (0#8 ||| x), u16v s]) (by simp [results, Tryz.results47, go_sem]) rfl ⟨rfl, ((Fr.refl _ _).alloc _).alloc _⟩

/-! ### A family: its kind, and a slice of its own with the registers -/
structure PR where
  spec : BitVec 16
  idx : BitVec 16
  info : BitVec 8
  nm : ByteArray

def pregV (k : BitVec 8) (fb : Nat) (p : PR) : Value := regPhys k ⟨fb, 0, none⟩ p.idx p.nm p.info p.spec
def encP (k : BitVec 8) (fb : Nat) (p : PR) : List Value := [pregV k fb p]
def FamIs (w : World) (fb : Nat) (k : BitVec 8) (l : List PR) : Prop :=
  ∃ a c, w.heap[fb]? = some (.cells #[u8v k, .slice a l.length c] 116 (0, 0)) ∧ Own w (fb + 1) 74 1 (encP k fb) (.slice a l.length c) l

theorem elemPhysical : Elem Tryz.prog 114 74 1 16 where
  und := Tryz.underlying114
  info := by
    obtain ⟨i, h1, h2, h3, h4⟩ := info_parts (show (Tryz.prog.info? 74).map (fun i => (i.zero, i.size, i.bytes)) = some (some .nilIface, 1, 16) by kernel_rfl)
    exact ⟨i, _, h1, h2, h3, h4, rfl⟩
  pos := by omega

/-- the block in which a family's slice of registers lies -/
def FamRow (w : World) (fb i : Nat) : Prop := ∃ a n c, w.cell? ⟨fb, 1, none⟩ = some (.slice a n c) ∧ a.map (·.block) = some i
theorem FamIs.row {w : World} {fb : Nat} {k : BitVec 8} {l : List PR} (h : FamIs w fb k l) {i : Nat} (hr : FamRow w fb i) : fb < i ∧ i < w.heap.size := by
  obtain ⟨a, c, h1, h2⟩ := h
  obtain ⟨a', n', c', h3, h4⟩ := hr
  have : w.cell? ⟨fb, 1, none⟩ = some (.slice a l.length c) := by simp [World.cell?, h1]
  rw [this] at h3
  cases h3
  have := h2.lt i (by rw [ownBlock_slice]; exact h4)
  exact ⟨by omega, this.2⟩

theorem pregV_iface (k : BitVec 8) (fb : Nat) (p : PR) : ∃ t x, pregV k fb p = .iface t x := by
  unfold pregV regPhys physV
  split
  · exact ⟨_, _, rfl⟩
  · split
    · exact ⟨_, _, rfl⟩
    · split <;> exact ⟨_, _, rfl⟩

theorem FamIs.kind {w : World} {fb : Nat} {k : BitVec 8} {l : List PR} (h : FamIs w fb k l) : w.cell? ⟨fb, 0, none⟩ = some (u8v k) := by
  obtain ⟨a, c, h1, _⟩ := h; simp [World.cell?, h1]
theorem FamIs.pregV {w : World} {fb : Nat} {k : BitVec 8} {l : List PR} (h : FamIs w fb k l) (p : PR) : RegV w ⟨false, k, p.idx, p.spec⟩ (pregV k fb p) := by
  unfold RegV; simp only [Bool.false_eq_true, if_false]
  exact ⟨fb, p.nm, p.info, rfl, h.kind⟩

set_option maxRecDepth 100000 in
set_option maxHeartbeats 1600000 in
theorem famadd_c (w : World) (fb : Nat) (k : BitVec 8) (l : List PR) (p : PR) (h : FamIs w fb k l) (hn : l.length ≤ 200) :
    Calls Tryz.prog 45 #[.pointer (some ⟨fb, 0, none⟩), pregV k fb p] w fun e w' => e = .returned (.tuple #[]) ∧ FamIs w' fb k (l ++ [p]) ∧ Below fb w w' ∧ Fr (fun i => i = fb ∨ FamRow w fb i) w w' := by
  have hR := h.pregV p
  have hk := h.kind
  obtain ⟨a, c, hb, hO⟩ := h
  obtain ⟨t, x, htx⟩ := pregV_iface k fb p
  have hlt : fb < w.heap.size := (Array.getElem?_eq_some_iff.1 hb).1
  have hc1 : w.cell? ⟨fb, 1, none⟩ = some (.slice a l.length c) := by simp [World.cell?, hb]
  rw [htx] at hR ⊢
  go_enter Tryz.func45, Tryz.ntmps45
  go_wp2
  refine wp_region_quiet (C := Fr Non w) (by kernel_rfl) (by kernel_rfl) ((Fr.refl Non w).drew) ?_
  refine wq_val (.iface t x) rfl (fun X hX => rfl) ?_
  refine wq_meth (u8v k) rfl _ _ _ rfl (.iface t x) rfl (fun X hX => (reg_Kind (hR.non hX)).mono fun e w' ⟨he, hf⟩ => ⟨he, hX.andThen hf⟩) ?_
  refine wq_val (.pointer (some ⟨fb, 0, none⟩)) rfl (fun X hX => rfl) ?_
  refine wq_val (.pointer (some ⟨fb, 0, none⟩)) rfl (fun X hX => rfl) ?_
  refine wq_val (.pointer (some ⟨fb, 0, none⟩)) rfl (fun X hX => by go_simp) ?_
  refine wq_val (u8v k) rfl (fun X hX => by have d1 := hX.cell hk (fun h => h); go_simp) ?_
  refine wq_val (.bool false) rfl (fun X hX => by go_simp) (wpQuiet_nil ?_)
  intro X hX
  go_frame
  have hbX : X.heap[fb]? = some (.cells #[u8v k, .slice a l.length c] 116 (0, 0)) := (hX.block fb hlt (fun h => h)).trans hb
  have hOX : Own (X.alloc (.cells #[.iface t x] 74)) (fb + 1) 74 1 (encP k fb) (.slice a l.length c) l := (hO.fr hX (fun _ _ h => h)).fr ((Fr.refl Non X).alloc _) (fun _ _ h => h)
  have hcX : X.cell? ⟨fb, 1, none⟩ = some (.slice a l.length c) := by simp [World.cell?, hbX]
  have hltX : fb < X.heap.size := Nat.lt_of_lt_of_le hlt hX.size
  have hy : ∀ j u, (encP k fb p)[j]? = some u → (X.alloc (.cells #[.iface t x] 74)).cell? ⟨X.heap.size, j, none⟩ = some u := by
    intro j u hj
    cases j with
    | zero => simp [encP, htx] at hj; subst hj; simp
    | succ j => simp [encP] at hj
  have h1c : ∀ u ∈ encP k fb p, u.oneCell' = true := by intro u hu; simp [encP, htx] at hu; subst hu; rfl
  have hlo := hOX.lt
  rw [ownBlock_slice] at hlo
  have hszX : (X.alloc (.cells #[.iface t x] 74)).heap.size = X.heap.size + 1 := by simp
  have hfb : a.map (·.block) ≠ some fb := fun e => by have := hlo fb e; omega
  have hkeep : ∀ w1, Fr (fun i => a.map (·.block) = some i) (X.alloc (.cells #[.iface t x] 74)) w1 → w1.heap[fb]? = some (.cells #[u8v k, .slice a l.length c] 116 (0, 0)) := fun w1 hf =>
    (hf.block fb (by rw [hszX]; omega) hfb).trans ((Below.heap_alloc _ _ _ hltX).trans hbX)
  go_wp2_with (at_builtin; refine wl_app rfl _ _ _ rfl elemPhysical hOX rfl X.heap.size 1 p rfl (fun _ => rfl) hy h1c (by omega) (by omega) (by rw [hszX]; omega) ?_; intro a1 c1 w1 hO1 hf1 hl1; have hb1 := hkeep w1 hf1; have hc1 : w1.cell? ⟨fb, 1, none⟩ = some (.slice a l.length c) := (by simp [World.cell?, hb1]); have hz1 : w1.frozen? ⟨fb, 1, none⟩ = false := (by simp [World.frozen?, hb1]))
  go_end0
  refine ⟨rfl, ⟨a1, c1, ?_, ?_⟩, ?_, ?_⟩
  · rw [List.length_append]
    show (w1.setCell _ _).heap[fb]? = _
    simp only [World.setCell, Array.getElem?_modify, if_true, hb1]
    rfl
  · rw [List.length_append]
    refine hO1.fr ((Fr.refl (· = fb) w1).setCell (.inr rfl) _) (fun i hi e => ?_)
    rw [ownBlock_slice] at hi
    subst e
    rcases hl1 with h | h
    · rw [h] at hi; have := hlo i hi; omega
    · rw [h] at hi; simp at hi; omega
  · have h2 : Below fb X w1 := ⟨hf1.os, hf1.tape, hf1.output, Nat.le_trans (by simp) hf1.size, fun i hi => (hf1.block i (by simp; omega) (fun e => by have := hlo i e; omega)).trans (Below.heap_alloc _ _ _ (by omega))⟩
    exact ((hX.below.mono (Nat.le_of_lt hlt)).trans h2).setCell (Nat.le_refl _) _
  · refine Fr.setCell ?_ (.inr (.inl rfl)) _
    refine ((hX.mono (fun _ _ h => h.elim)).alloc _).then hf1 (fun i hi e => .inr ⟨a, l.length, c, ?_, e⟩)
    simp [World.cell?, hb]

theorem FamIs.lt {w : World} {fb : Nat} {k : BitVec 8} {l : List PR} (h : FamIs w fb k l) : fb < w.heap.size := by
  obtain ⟨a, c, h1, _⟩ := h; exact (Array.getElem?_eq_some_iff.1 h1).1
theorem FamIs.later {w w' : World} {fb : Nat} {k : BitVec 8} {l : List PR} (h : FamIs w fb k l) (_hb : Below fb w w') (hh : ∀ i, fb ≤ i → i < w.heap.size → w'.heap[i]? = w.heap[i]?) : FamIs w' fb k l := by
  have hlt := h.lt
  obtain ⟨a, c, h1, h2⟩ := h
  refine ⟨a, c, (hh fb (Nat.le_refl _) hlt).trans h1, ?_⟩
  have hlo := h2.lt
  have hf : Fr (fun i => i < fb) w w' := ⟨_hb.os, _hb.tape, _hb.output, _hb.size, fun i hi hn => hh i (by omega) hi⟩
  exact h2.fr hf (fun i hi e => by have := hlo i hi; omega)

end Go.Proofs.YtglamkopjjimjaaGreat
