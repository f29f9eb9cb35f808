/- The world of registers: the family's look-up, the physical registers, 'reg'. -/
import Derived.Test.YtglamkopjjimjaaGreatFKind2
import Derived.Deep.Cut
set_option linter.unusedVariables false
set_option linter.unusedSimpArgs false
namespace Go.Proofs.YtglamkopjjimjaaGreat
open Go.RowKit

section
variable {P : Program} {w : World} {ops : Array Oper} {rest : List Oper} {o : Oper} {a : Act} {Q : Exit → Act → World → Prop}
theorem wl_want (hw : Region.wanted o (yielded ops a.tmps) = true) (h : ∀ K : Act → World → Prop, (∀ a w, wpList P ops Q rest a w → K a w) → o.wp P a w K Q) : wpList P ops Q (o :: rest) a w :=
  wpList_step fun K hK => by rw [if_pos hw]; exact h K hK
theorem wl_skip (hw : Region.wanted o (yielded ops a.tmps) = false) (h : wpList P ops Q rest (a.put o.dst undef) w) : wpList P ops Q (o :: rest) a w :=
  wpList_step fun K hK => by rw [if_neg (by rw [hw]; exact Bool.false_ne_true)]; exact hK _ _ h
/-- a method's call, under a guard that says yes -/
theorem wl_methW (x : Operand) (m : String) (tys : Array TypeId) (hop : o.op = Op.call { callee := Callee.invoke x m, args := #[], argTypes := tys }) (hw : Region.wanted o (yielded ops a.tmps) = true) (v : Value) (hx : a.eval x = v)
    (r : Value) (hc : MCalls P v m #[] w fun e w' => e = .returned r ∧ Fr Non w w') (hK : ∀ w', Fr Non w w' → wpList P ops Q rest (a.put o.dst r) w') : wpList P ops Q (o :: rest) a w := by
  refine wl_want hw fun K' hK' => ?_
  obtain ⟨f, ars, h1, hcalls⟩ := hc.op hop hx
  unfold Oper.wp
  rw [h1]
  show Calls P f ars w _
  refine hcalls.mono ?_
  rintro e w' ⟨rfl, hf⟩
  exact hK' _ _ (hK w' hf)
theorem wl_valW (hw : Region.wanted o (yielded ops a.tmps) = true) (v : Value) (h : (execOp a.eval o).run P w = .ok (.value v) w) (hK : wpList P ops Q rest (a.put o.dst v) w) : wpList P ops Q (o :: rest) a w := by
  refine wl_want hw fun K' hK' => ?_
  unfold Oper.wp
  rw [h]
  exact hK' _ _ hK
end

/-- what a family's look-up finds -/
def fits (i s : BitVec 16) (p : PR) : Bool := p.idx == i && p.spec == s
def famFind (i s : BitVec 16) (l : List PR) : Option PR := l.find? (fits i s)
def lookV (k : BitVec 8) (fb : Nat) : Option PR → Value
  | none => .nilIface
  | some p => pregV k fb p

theorem encP_len (k : BitVec 8) (fb : Nat) (p : PR) : (encP k fb p).length = 1 := rfl

set_option maxHeartbeats 1600000 in
theorem FLookup_c (w : World) (fb : Nat) (k : BitVec 8) (l : List PR) (i s : BitVec 16) (h : FamIs w fb k l) (hn : l.length ≤ 200) :
    Calls Tryz.prog 38 #[.pointer (some ⟨fb, 0, none⟩), u16v i, u16v s] w fun e w' => e = .returned (lookV k fb (famFind i s l)) ∧ Fr Non w w' := by
  have hR0 := fun p => h.pregV p
  obtain ⟨a, c, hb, hO⟩ := h
  have hlt : fb < w.heap.size := (Array.getElem?_eq_some_iff.1 hb).1
  obtain ⟨a', c', hv, hRd, hlc, hcm, hpb⟩ := hO.rd (encP_len k fb)
  obtain ⟨rfl, rfl⟩ : a = a' ∧ c = c' := by cases hv; exact ⟨rfl, rfl⟩
  have hc1 : w.cell? ⟨fb, 1, none⟩ = some (.slice a l.length c) := by simp [World.cell?, hb]
  clear hv hb hO
  go_enter Tryz.func38, Tryz.ntmps38
  go_wp2
  go_loopw [8, 14] (fun x i' wr => ∃ m : Nat, m ≤ l.length ∧ i' = .int .i64 m ∧ (∀ p ∈ l.take m, fits i s p = false) ∧ Fr Non w wr)
    (fun _ i' _ => l.length - (intOf i').toNat)
  case atStart => exact ⟨0, Nat.zero_le _, rfl, by simp, Fr.refl _ _⟩
  case round =>
    obtain ⟨m, hm, rfl, hno, hF⟩ := hrel
    by_cases hlt : m < l.length
    · obtain ⟨blk, off, rfl, hc⟩ := (hRd.fr hF (encP_len k fb) (by omega) (fun _ _ h => h)) (fun e => by rw [e] at hlt; simp at hlt)
      have hc0 := hc m hlt 0 (by omega)
      obtain ⟨t, x, htx⟩ := pregV_iface k fb l[m]
      simp only [encP, List.getElem?_cons_zero, Nat.add_zero, Nat.mul_one, htx] at hc0
      clear hc hRd
      have hR := (hR0 l[m]).non hF
      rw [htx] at hR
      go_upto_region 4 with fail
      refine wp_region_lit ?_
      refine wl_val (.iface t x) rfl rfl ?_
      refine wl_methW _ _ _ rfl rfl _ rfl _ (reg_PhysicalIndex hR rfl) ?_
      intro w1 hf1
      refine wl_val (u16v i) rfl rfl ?_
      refine wl_val (.bool (l[m].idx == i)) rfl (by go_simp) ?_
      refine wl_val (.bool (l[m].idx == i)) rfl rfl ?_
      have hFw := hF.andThen hf1
      by_cases hi : l[m].idx = i
      · have hib : (l[m].idx == i) = true := by simpa using hi
        rw [hib]
        go_frame
        refine wl_valW rfl (.iface t x) rfl ?_
        refine wl_methW _ _ _ rfl rfl _ rfl _ (reg_Mask (hR.non hf1)) ?_
        intro w2 hf2
        go_frame
        go_wp2_with (go_at_call 50; refine (SpecMask_c _ _).mono ?_; rintro e w' ⟨rfl, rfl⟩)
        · rename_i hs
          have hfit : fits i s l[m] = true := by simp only [fits, hib, Bool.true_and]; exact hs
          go_ret
          refine ⟨?_, hFw.andThen hf2⟩
          have : famFind i s l = some l[m] := by
            unfold famFind
            rw [List.find?_eq_some_iff_getElem]
            refine ⟨hfit, m, hlt, rfl, fun j hj => ?_⟩
            have := hno l[j] (List.mem_take_iff_getElem.2 ⟨j, by omega, rfl⟩)
            simp [this]
          rw [this]; exact congrArg Ending.returned htx.symm
        · rename_i hs
          have hfit : fits i s l[m] = false := by simp only [fits, hib, Bool.true_and]; exact hs
          go_roundw
          case rel =>
            refine ⟨m + 1, by omega, by go_num, ?_, hFw.andThen hf2⟩
            rw [List.take_succ_eq_append_getElem hlt]
            intro p hp
            rcases List.mem_append.1 hp with hp | hp
            · exact hno p hp
            · simp at hp; subst hp; exact hfit
          case measure => simp [intOf]; omega
      · have hib : (l[m].idx == i) = false := by simpa using hi
        rw [hib]
        go_frame
        go_wp2
        go_roundw
        case rel =>
          refine ⟨m + 1, by omega, by go_num, ?_, hFw⟩
          rw [List.take_succ_eq_append_getElem hlt]
          intro p hp
          rcases List.mem_append.1 hp with hp | hp
          · exact hno p hp
          · simp at hp; subst hp; simp [fits, hi]
        case measure => simp [intOf]; omega
    · have hml : m = l.length := by omega
      go_wp2
      go_ret
      refine ⟨?_, hF⟩
      rw [hml, List.take_length] at hno
      have : famFind i s l = none := List.find?_eq_none.2 (fun p hp => by rw [hno p hp]; simp)
      rw [this]; rfl

/-! ### The world: for each of the four kinds, nothing yet or the family -/
def tab (n : Nat) : List PR := if n = 0 then tabPs else if n = 1 then tabGP else if n = 2 then tabVec else tabK
def pv (o : Option Nat) : Value := .pointer (o.map fun fb => ⟨fb, 0, none⟩)

theorem Fam_c (w : World) (n : Nat) (hn : n < 4) : Calls Tryz.prog 37 #[.int .u8 (n : Int)] w (FamPost w (BitVec.ofNat 8 n) (tab n)) := by
  match n, hn with
  | 0, _ => exact FamPs_c w
  | 1, _ => exact FamGP_c w
  | 2, _ => exact FamVec_c w
  | 3, _ => exact FamK_c w

theorem tab_len (n : Nat) (hn : n < 4) : (tab n).length ≤ 200 := by
  match n, hn with
  | 0, _ => decide
  | 1, _ => decide
  | 2, _ => decide
  | 3, _ => decide

theorem FamRow.fr {S : Nat → Prop} {w w' : World} (hf : Fr S w w') {fb : Nat} (hlt : fb < w.heap.size) (hS : ¬ S fb) {j : Nat} (h : FamRow w' fb j) : FamRow w fb j := by
  obtain ⟨a, n, c, h1, h2⟩ := h
  exact ⟨a, n, c, (World.cell?_of_block (w := w) (a := ⟨fb, 1, none⟩) (hf.block fb hlt hS)).symm.trans h1, h2⟩

theorem FamIs.fr {S : Nat → Prop} {w w' : World} {fb : Nat} {k : BitVec 8} {l : List PR} (h : FamIs w fb k l) (hf : Fr S w w') (hS : ¬ S fb) (hR : ∀ j, FamRow w fb j → ¬ S j) : FamIs w' fb k l := by
  have hlt := h.lt
  obtain ⟨a, c, h1, h2⟩ := h
  refine ⟨a, c, (hf.block fb hlt hS).trans h1, h2.fr hf (fun i hi => ?_)⟩
  rw [ownBlock_slice] at hi
  exact hR i ⟨a, l.length, c, by simp [World.cell?, h1], hi⟩

structure WorldIs (w : World) (wb : Nat) (fp : List Nat) (p : Nat → Option Nat) : Prop where
  block : w.heap[wb]? = some (.cells #[pv (p 0), pv (p 1), pv (p 2), pv (p 3)] 66 (0, 0))
  self : wb ∈ fp
  inside : ∀ j ∈ fp, j < w.heap.size
  fams : ∀ n, n < 4 → ∀ fb, p n = some fb → FamIs w fb (BitVec.ofNat 8 n) (tab n) ∧ (fb ∈ fp ∧ fb ≠ wb) ∧ ∀ j, FamRow w fb j → j ∈ fp ∧ j ≠ wb

theorem WorldIs.fr {S : Nat → Prop} {w w' : World} {wb : Nat} {fp : List Nat} {p : Nat → Option Nat} (h : WorldIs w wb fp p) (hf : Fr S w w') (hS : ∀ j, j ∈ fp → ¬ S j) : WorldIs w' wb fp p where
  block := (hf.block wb (Array.getElem?_eq_some_iff.1 h.block).1 (hS wb h.self)).trans h.block
  self := h.self
  inside := fun j hj => Nat.lt_of_lt_of_le (h.inside j hj) hf.size
  fams := fun n hn fb hp => by
    obtain ⟨h1, h2, h3⟩ := h.fams n hn fb hp
    exact ⟨h1.fr hf (hS fb h2.1) (fun j hj => hS j (h3 j hj).1), h2, fun j hj => h3 j (hj.fr hf h1.lt (hS fb h2.1))⟩

theorem WorldIs.lt {w : World} {wb : Nat} {fp : List Nat} {p : Nat → Option Nat} (h : WorldIs w wb fp p) : wb < w.heap.size := (Array.getElem?_eq_some_iff.1 h.block).1
theorem WorldIs.cell {w : World} {wb : Nat} {fp : List Nat} {p : Nat → Option Nat} (h : WorldIs w wb fp p) {n : Nat} (hn : n < 4) : w.cell? ⟨wb, n, none⟩ = some (pv (p n)) ∧ w.frozen? ⟨wb, n, none⟩ = false := by
  have hb := h.block
  match n, hn with
  | 0, _ => exact ⟨by simp [World.cell?, hb], by simp [World.frozen?, hb]⟩
  | 1, _ => exact ⟨by simp [World.cell?, hb], by simp [World.frozen?, hb]⟩
  | 2, _ => exact ⟨by simp [World.cell?, hb], by simp [World.frozen?, hb]⟩
  | 3, _ => exact ⟨by simp [World.cell?, hb], by simp [World.frozen?, hb]⟩

set_option maxHeartbeats 800000 in
theorem newWorld_c (w : World) : Calls Tryz.prog 17 #[] w fun e w' => e = .returned (.pointer (some ⟨w.heap.size, 0, none⟩)) ∧ WorldIs w' w.heap.size [w.heap.size] (fun _ => none) ∧ Fr Non w w' := by
  go_enter Tryz.func17, Tryz.ntmps17
  go_wp2
  go_ret
  refine ⟨rfl, ⟨heap_alloc_new w _, by simp, by simp, fun n hn fb h => by cases h⟩, (Fr.refl _ _).alloc _⟩

/-- what the world hands out -/
def physR (k i s : Nat) : Option Rg := if k < 4 ∧ (famFind (BitVec.ofNat 16 i) (BitVec.ofNat 16 s) (tab k)).isSome then some ⟨false, BitVec.ofNat 8 k, BitVec.ofNat 16 i, BitVec.ofNat 16 s⟩ else none

end Go.Proofs.YtglamkopjjimjaaGreat
