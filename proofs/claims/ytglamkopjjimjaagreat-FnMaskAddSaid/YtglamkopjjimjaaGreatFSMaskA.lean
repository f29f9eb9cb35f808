/- spec.Masks: one step that adds parts of a number. -/
import Derived.Test.YtglamkopjjimjaaGreatFStep
set_option linter.unusedVariables false
set_option linter.unusedSimpArgs false
namespace Go.Proofs.YtglamkopjjimjaaGreat
open Go.RowKit

/-- what the reference tells of one step: behind the call the only told entry lies at ⟨tb, to⟩ -/
def ToldOne (w w' : World) (x : Step) (xs s : LM) (e : Ending) : Prop :=
  ∃ tb to tc ch out oa oc, e = .returned (.slice (some ⟨tb, to, none⟩) 1 tc) ∧ w'.cell? ⟨tb, to, none⟩ = some (.bool ch) ∧ w'.cell? ⟨tb, to + 1, none⟩ = some (.slice oa (List.length out) oc) ∧ RdS w' oa 2 encL out ∧ Turned x xs s ch out ∧ Fr Non w w'

theorem turned_of {x : Step} {xs s s0 t : LM} (h0 : TidyL s0) (m0 : ∀ k, maskOf k s0 = maskOf k (ofL s)) (ht : TidyL t) (mt : ∀ k, maskOf k t = stepF x xs (fun k => maskOf k (ofL s)) k) : Turned x xs s (!decide (s0 = t)) t := by
  refine ⟨ht, mt, ?_⟩
  constructor
  · intro h k
    have e : s0 = t := by simpa using h
    rw [← mt, ← e, m0]
  · intro h
    have e : s0 = t := tidy_ext h0 ht (fun k => by rw [m0, mt, h])
    simp [e]

theorem stepAdd_eq {s0 s xs : LM} {id : BitVec 32} {mask : BitVec 16} {r : Rg} {v : Value} (_h : TidyL s0) (m0 : ∀ k, maskOf k s0 = maskOf k (ofL s)) (k : BitVec 32) :
    (if k = id then maskOf id s0 ||| mask else maskOf k s0) = stepF ⟨0, id, mask, r, v⟩ xs (fun k => maskOf k (ofL s)) k := by
  simp only [stepF, if_true]
  split
  · rename_i e; rw [m0, e]
  · rw [m0]

set_option maxRecDepth 100000 in
set_option maxHeartbeats 4000000 in
theorem sMasksAdd_c (w : World) (a : Option Addr) (n c : Nat) (s : LM) (x : Step) (xs : LM) (blk off : Nat) (pa : Option Addr) (pn pc : Nat) (hd : x.dop = 0) (hset : x.set = .slice pa pn pc) (hs : s.length = n) (hR : RdS w a 2 encL s) (hb : n ≤ 2147483647) (hst : ∀ j u, (encStep x)[j]? = some u → w.cell? ⟨blk, off + j, none⟩ = some u) :
    Calls Tryz.prog 6 #[.slice a n c, .slice (some ⟨blk, off, none⟩) 1 1] w fun e w' => ToldOne w w' x xs s e := by
  obtain ⟨dop, id, mask, ⟨rv, rk, ri, rs⟩, set⟩ := x
  simp only at hd hset
  subst hd hset
  have c0 := hst 0 _ rfl
  have c1 := hst 1 _ rfl
  have c2 := hst 2 _ rfl
  have c3 := hst 3 _ rfl
  have c4 := hst 4 _ rfl
  have c5 := hst 5 _ rfl
  have c6 := hst 6 _ rfl
  have c7 := hst 7 _ rfl
  simp only [Nat.add_zero] at c0 c1 c2 c3 c4 c5 c6 c7
  have hT := Lib.hid (Tidy_c w a n c s hs hR (by omega))
  clear hst hR hs
  have Q1 := Lib.hid (Eq.refl 1)
  go_enter Tryz.func6, Tryz.ntmps6
  go_wp2_with (go_at_call 8; clear Q1; go_must (refine hT.out.mono ?_; rintro e w1 ⟨v, s0, rfl, ⟨sa, sc, rfl, hs1, hs2, hs3⟩, T0, M0, hf1⟩))
  have d0 := hf1.cell c0 (fun h => h)
  have d1 := hf1.cell c1 (fun h => h)
  have d2 := hf1.cell c2 (fun h => h)
  have d3 := hf1.cell c3 (fun h => h)
  have d4 := hf1.cell c4 (fun h => h)
  have d5 := hf1.cell c5 (fun h => h)
  have d6 := hf1.cell c6 (fun h => h)
  have d7 := hf1.cell c7 (fun h => h)
  clear c0 c1 c2 c3 c4 c5 c6 c7 hT
  have HM0 := Lib.hid M0
  clear M0
  have hA : Fr Non w1 (w1.alloc (.cells #[.int .i64 0, u32v id, u16v mask, .bool rv, u8v rk, u16v ri, u16v rs, .slice pa pn pc] 29)) := (Fr.refl _ _).alloc _
  have hl0 := tidy_len T0
  have hMA := Lib.hid (maskAdd_c _ sa sc s0 id mask hs1 (hs2.fr hA (fun _ => rfl) (by omega) (fun _ _ h => h)) (fun p hp => Nat.lt_of_lt_of_le (hs3 p hp) hA.size) hl0)
  have TA := addL_tidy T0 id mask
  have MA := Lib.hid (addL_mask T0 id mask)
  have hla := tidy_len TA
  refine wp_loop_rounds 2 ?_
  rw [rounds_succ]
  go_upto_region 23 with (go_at_call 13; go_must (refine hMA.out.mono ?_; rintro e w2 ⟨v, rfl, ⟨ta, tc, rfl, ht1, ht2, ht3⟩, hf2⟩))
  generalize hgt : addL s0 id mask = t at *
  have HT := Lib.hid (turned_of (x := ⟨0, id, mask, ⟨rv, rk, ri, rs⟩, .slice pa pn pc⟩) (xs := xs) T0 HM0.out TA (fun k => by rw [MA.out]; exact stepAdd_eq T0 HM0.out k))
  have Q2 := Lib.hid (Eq.refl 2)
  have Q3 := Lib.hid (Eq.refl 3)
  have Q4 := Lib.hid (Eq.refl 4)
  clear hMA hgt
  cases ta with
  | none =>
    obtain rfl : t = [] := by
      cases ht : t with
      | nil => rfl
      | cons y ys =>
        obtain ⟨_, _, h, _⟩ := ht2 (by rw [ht]; simp)
        cases h
    go_wp2_with (first
      | (go_at_call 7; clear Q2; go_must (refine (SameLive_c _ sa none s0.length 0 sc tc s0 [] rfl rfl ((hs2.fr hA (fun _ => rfl) (by omega) (fun _ _ h => h)).fr hf2 (fun _ => rfl) (by omega) (fun _ _ h => h)) ht2 hl0 hla).mono ?_; rintro e w3 ⟨rfl, hf3⟩))
      | (at_builtin; clear Q3; go_must (refine wl_val (.slice (some ⟨w3.heap.size, 0, none⟩) 0 0) rfl (by go_simp) ?_))
      | (at_builtin; clear Q4; go_must (refine wl_appB rfl _ _ _ rfl elemTold ((Fr.refl Non w3).alloc (.cells #[] 46)) (Own.nil _ w3.heap.size 37 2 encT) rfl rfl ⟨!decide (s0 = []), .slice (some ⟨w3.heap.size, 0, none⟩) 0 0⟩ #[.bool (!decide (s0 = [])), .slice (some ⟨w3.heap.size, 0, none⟩) 0 0] rfl (w3.heap.size + 1) (by simp) rfl (fun _ => rfl) (toldOne _ _ _ _) (by omega) (by omega) ?_; intro a5 c5 w5 hO5 hf5)))
    rw [rounds_succ]
    go_wp2
    go_ret
    obtain ⟨b5, d5, hv5, hR5, _, _, _⟩ := hO5.rd (fun _ => rfl)
    obtain ⟨blk5, off5, rfl, hc5⟩ := hR5 (by simp)
    have h50 := hc5 0 (by simp) 0 (by omega)
    have h51 := hc5 0 (by simp) 1 (by omega)
    simp only [encT, List.nil_append, List.getElem_cons_zero, List.getElem?_cons_zero, List.getElem?_cons_succ, Nat.add_zero, Nat.zero_mul] at h50 h51
    have e5 : a5 = some ⟨blk5, off5, none⟩ := by injection hv5
    subst e5
    exact ⟨blk5, off5, c5, !decide (s0 = []), [], some ⟨w3.heap.size, 0, none⟩, 0, rfl, h50, h51, RdS.nil _ _ _ _, HT.out, ((((hf1.andThen hA).andThen hf2).andThen hf3).andThen hf5)⟩
  | some ta =>
    go_wp2_with (first
      | (go_at_call 7; clear Q2; go_must (refine (SameLive_c _ sa (some ta) s0.length t.length sc tc s0 t rfl rfl ((hs2.fr hA (fun _ => rfl) (by omega) (fun _ _ h => h)).fr hf2 (fun _ => rfl) (by omega) (fun _ _ h => h)) ht2 hl0 hla).mono ?_; rintro e w3 ⟨rfl, hf3⟩))
      | (at_builtin; clear Q3; go_must (refine wl_appAll rfl _ _ _ rfl elemLive ((Fr.refl Non w3).alloc (.cells #[] 46)) (Own.empty encL (Nat.le_refl _)) rfl rfl t ta t.length tc rfl rfl ((ht2.fr hf3 (fun _ => rfl) (by omega) (fun _ _ h => h)).fr ((Fr.refl Non w3).alloc (.cells #[] 46)) (fun _ => rfl) (by omega) (fun _ _ h => h)) (fun _ => rfl) oneL (by omega) (by omega) ?_; intro a4 c4 w4 hO4 hf4; rw [Nat.zero_add] at hO4 ⊢))
      | (at_builtin; clear Q4; go_must (refine wl_appN rfl _ _ _ rfl elemTold (Fr.refl Non w4) (Own.nil w4 w4.heap.size 37 2 encT) rfl rfl ⟨!decide (s0 = t), .slice a4 t.length c4⟩ #[.bool (!decide (s0 = t)), .slice a4 t.length c4] rfl rfl (fun _ => rfl) (toldOne _ a4 _ c4) (by omega) (by omega) ?_; intro a5 c5 w5 hO5 hf5)))
    rw [rounds_succ]
    go_wp2
    go_ret
    obtain ⟨b5, d5, hv5, hR5, _, _, _⟩ := hO5.rd (fun _ => rfl)
    obtain ⟨blk5, off5, rfl, hc5⟩ := hR5 (by simp)
    have h50 := hc5 0 (by simp) 0 (by omega)
    have h51 := hc5 0 (by simp) 1 (by omega)
    simp only [encT, List.nil_append, List.getElem_cons_zero, List.getElem?_cons_zero, List.getElem?_cons_succ, Nat.add_zero, Nat.zero_mul] at h50 h51
    obtain ⟨b4, d4', hv4, hR4, _, _, _⟩ := hO4.rd (fun _ => rfl)
    have e5 : a5 = some ⟨blk5, off5, none⟩ := by injection hv5
    subst e5
    have e4 : a4 = b4 := by injection hv4
    subst e4
    exact ⟨blk5, off5, c5, !decide (s0 = t), t, a4, c4, rfl, h50, h51, hR4.fr hf5 (fun _ => rfl) (by omega) (fun _ _ h => h), HT.out, (((((hf1.andThen hA).andThen hf2).andThen hf3).andThen hf4).andThen hf5)⟩

end Go.Proofs.YtglamkopjjimjaaGreat
