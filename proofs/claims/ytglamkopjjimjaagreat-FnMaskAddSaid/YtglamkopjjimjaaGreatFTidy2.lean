/- The reference's Tidy and SameLive. -/
import Derived.Test.YtglamkopjjimjaaGreatFTidy
import Derived.Deep.RegionWith
set_option linter.unusedVariables false
set_option linter.unusedSimpArgs false
namespace Go.Proofs.YtglamkopjjimjaaGreat
open Go.RowKit

/-! ### The plain law of Tidy -/
theorem maskOf_put (k a : BitVec 32) (v : BitVec 16) (l : LM) : maskOf k (put a v l) = if k = a then v else maskOf k l := getZ_put 0#16 a k v l

theorem keys_cons_ne {k : BitVec 32} {p : BitVec 32 × BitVec 16} {l : LM} (h : ¬ k = p.1) : k ∈ keys (p :: l) ↔ k ∈ keys l := by
  show k ∈ p.1 :: keys l ↔ _
  simp [h]
theorem keys_cons_self (p : BitVec 32 × BitVec 16) (l : LM) : p.1 ∈ keys (p :: l) := by
  show p.1 ∈ p.1 :: keys l
  simp

def TidyInv (l : LM) (i : Nat) (out : LM) : Prop := TidyL out ∧ ∀ k, maskOf k out = if k ∈ keys (l.drop i) then 0#16 else maskOf k (ofL (l.take i))

theorem TidyInv.zero (l : LM) : TidyInv l 0 [] := ⟨⟨.nil, by simp⟩, fun k => by split <;> rfl⟩
theorem TidyInv.last {l out : LM} {i : Nat} (h : TidyInv l i out) (hi : i < l.length) (hl : l[i].1 ∉ keys (l.drop (i + 1))) : TidyInv l (i + 1) (addL out l[i].1 l[i].2) := by
  obtain ⟨h1, h2⟩ := h
  have hd : l.drop i = l[i] :: l.drop (i + 1) := List.drop_eq_getElem_cons hi
  have ht : l.take (i + 1) = l.take i ++ [l[i]] := List.take_succ_eq_append_getElem hi
  refine ⟨addL_tidy h1 _ _, fun k => ?_⟩
  rw [addL_mask h1, ht, ofL_snoc, maskOf_put]
  by_cases hk : k = l[i].1
  · rw [if_pos hk, hk, if_neg hl, if_pos rfl, h2, hd, if_pos (keys_cons_self _ _)]; simp
  · rw [if_neg hk, if_neg hk, h2, hd]
    simp only [keys_cons_ne hk]
theorem TidyInv.more {l out : LM} {i : Nat} (h : TidyInv l i out) (hi : i < l.length) (hl : l[i].1 ∈ keys (l.drop (i + 1))) : TidyInv l (i + 1) out := by
  obtain ⟨h1, h2⟩ := h
  have hd : l.drop i = l[i] :: l.drop (i + 1) := List.drop_eq_getElem_cons hi
  have ht : l.take (i + 1) = l.take i ++ [l[i]] := List.take_succ_eq_append_getElem hi
  refine ⟨h1, fun k => ?_⟩
  rw [h2, hd, ht, ofL_snoc, maskOf_put]
  by_cases hk : k = l[i].1
  · rw [hk, if_pos hl, if_pos (keys_cons_self _ _)]
  · rw [if_neg hk]
    simp only [keys_cons_ne hk]
theorem TidyInv.done {l out : LM} (h : TidyInv l l.length out) : TidyL out ∧ ∀ k, maskOf k out = maskOf k (ofL l) := by
  obtain ⟨h1, h2⟩ := h
  refine ⟨h1, fun k => ?_⟩
  rw [h2, List.drop_length, if_neg (by simp [keys]), List.take_length]

/-- no later entry has the number a -/
def NoLater (l : LM) (i j : Nat) (a : BitVec 32) (b : Bool) : Prop := b = true ↔ a ∉ keys ((l.take j).drop (i + 1))
theorem NoLater.zero (l : LM) (i : Nat) (a : BitVec 32) : NoLater l i (i + 1) a true := by
  have : (l.take (i + 1)).drop (i + 1) = [] := List.drop_eq_nil_of_le (by rw [List.length_take]; omega)
  simp [NoLater, this, keys]
theorem NoLater.step {l : LM} {i j : Nat} {a : BitVec 32} {b : Bool} (h : NoLater l i j a b) (hij : i + 1 ≤ j) (hj : j < l.length) : NoLater l i (j + 1) a (b && (l[j].1 != a)) := by
  unfold NoLater at *
  have e : (l.take (j + 1)).drop (i + 1) = (l.take j).drop (i + 1) ++ [l[j]] := by
    rw [List.take_succ_eq_append_getElem hj, List.drop_append_of_le_length (by rw [List.length_take]; omega)]
  rw [e]
  simp only [keys, List.map_append, List.map_cons, List.map_nil, List.mem_append, List.mem_singleton, not_or, Bool.and_eq_true, bne_iff_ne, ne_eq]
  rw [h]
  simp only [keys]
  constructor
  · rintro ⟨h1, h2⟩; exact ⟨h1, fun e => h2 e.symm⟩
  · rintro ⟨h1, h2⟩; exact ⟨h1, fun e => h2 e.symm⟩
theorem NoLater.full {l : LM} {i : Nat} {a : BitVec 32} {b : Bool} (h : NoLater l i l.length a b) : b = true ↔ a ∉ keys (l.drop (i + 1)) := by
  unfold NoLater at h; rwa [List.take_length] at h

theorem tidy_len {l : LM} (h : TidyL l) : l.length ≤ 4294967296 := keys_len h.nodup

set_option maxRecDepth 100000 in
set_option maxHeartbeats 4000000 in
theorem Tidy_c (w : World) (a : Option Addr) (n c : Nat) (l : LM) (hn : l.length = n) (hR : RdS w a 2 encL l) (hb : n ≤ 4294967296) :
    Calls Tryz.prog 8 #[.slice a n c] w fun e w' => ∃ v out, e = .returned v ∧ SlR w' 2 encL v out ∧ TidyL out ∧ (∀ k, maskOf k out = maskOf k (ofL l)) ∧ Fr Non w w' := by
  subst hn
  go_enter Tryz.func8, Tryz.ntmps8
  go_wp2
  go_loopg [3, 4, 5, 6] l.length (fun g o si s5 s6 wr => ∃ (i oc : Nat) (oa : Option Addr) (out : LM), i ≤ l.length ∧ g = l.length - i ∧ si = .int .i64 i ∧ o = .slice oa out.length oc ∧ out.length ≤ oc ∧
      RdS wr oa 2 encL out ∧ (∀ p : Addr, oa = some p → p.block < wr.heap.size) ∧ TidyInv l i out ∧ Fr Non w wr)
  case atStart => exact ⟨0, 0, none, [], Nat.zero_le _, rfl, rfl, rfl, Nat.le_refl _, RdS.nil _ _ _ _, (fun _ h => by cases h), TidyInv.zero l, Fr.refl _ _⟩
  case round =>
    obtain ⟨i, oc, oa, out, hi, rfl, rfl, rfl, hoc, hRo, hob, hInv, hF⟩ := hrel
    by_cases hlt : i < l.length
    · have HR := Lib.hid hR
      have hR1 := hR.fr hF (fun _ => rfl) (by omega) (fun _ _ h => h)
      obtain ⟨blk, off, rfl, hcell⟩ := hR (fun e => by rw [e] at hlt; simp at hlt)
      have Hcell := Lib.hid hcell
      have hw0 := hcell i hlt 0 (by omega)
      have hw1 := hcell i hlt 1 (by omega)
      simp only [encL, List.getElem?_cons_zero, List.getElem?_cons_succ, Nat.add_zero] at hw0 hw1
      have Hlast := Lib.hid (fun h => hInv.last hlt h)
      have Hmore := Lib.hid (fun h => hInv.more hlt h)
      have Hnl := Lib.hid (NoLater.zero l i l[i].1)
      have hol := tidy_len hInv.1
      clear hcell hR hR1 hInv
      generalize l[i] = y at *
      obtain ⟨ya, yv⟩ := y
      simp only at hw0 hw1
      go_wp2
      go_loopg [5, 6] (l.length - (i + 1)) (fun g2 s5 s6 wr2 => ∃ (j : Nat) (b : Bool), i + 1 ≤ j ∧ j ≤ l.length ∧ g2 = l.length - j ∧ s6 = .int .i64 j ∧ s5 = .bool b ∧ NoLater l i j ya b ∧ Fr Non wr wr2)
      case atStart => exact ⟨i + 1, true, Nat.le_refl _, by omega, rfl, by go_num, rfl, Hnl.out, Fr.refl _ _⟩
      case round =>
        obtain ⟨j, b, hij, hj, rfl, rfl, rfl, hnl, hF2⟩ := hrel
        by_cases hlt2 : j < l.length
        · have hv0 := Hcell.out j hlt2 0 (by omega)
          simp only [encL, List.getElem?_cons_zero, List.getElem?_cons_succ, Nat.add_zero] at hv0
          have Hst := Lib.hid (hnl.step hij hlt2)
          generalize l[j] = z at *
          obtain ⟨za, zv⟩ := z
          simp only at hv0
          have hd0 := (hF.andThen hF2).cell hw0 (fun h => h)
          have hd1 := (hF.andThen hF2).cell hv0 (fun h => h)
          cases b with
          | false =>
            go_wp2
            go_quiet (fail)
            go_wp2
            go_roundg (l.length - (j + 1))
            case measure => omega
            case rel => exact ⟨j + 1, false, by omega, by omega, rfl, by go_num, rfl, Hst.out, hF2.drewN nq⟩
          | true =>
            go_wp2
            go_quiet (fail)
            go_wp2
            go_roundg (l.length - (j + 1))
            case measure => omega
            case rel => exact ⟨j + 1, (za != ya), by omega, by omega, rfl, by go_num, rfl, Hst.out, hF2.drewN nq⟩
        · have hjl : j = l.length := by omega
          subst hjl
          have hfull := hnl.full
          have hFF := hF.andThen hF2
          have hR2 := hRo.fr hF2 (fun _ => rfl) (by omega) (fun _ _ h => h)
          have hd0 := hFF.cell hw0 (fun h => h)
          have hd1 := hFF.cell hw1 (fun h => h)
          cases b with
          | false =>
            have hin : ya ∈ keys (l.drop (i + 1)) := by
              apply Decidable.byContradiction; intro h; have := hfull.2 h; cases this
            have hI := Hmore.out hin
            have HI := Lib.hid hI
            clear hI hin hfull hnl
            go_wp2
            go_roundg (l.length - (i + 1))
            case measure => omega
            case rel => exact ⟨i + 1, oc, oa, out, by omega, rfl, by go_num, rfl, hoc, hR2, (fun p hp => Nat.lt_of_lt_of_le (hob p hp) hF2.size), HI.out, hFF⟩
          | true =>
            have HI := Lib.hid (Hlast.out (hfull.1 rfl))
            have hob2 : ∀ p : Addr, oa = some p → p.block < wr.heap.size := (fun p hp => Nat.lt_of_lt_of_le (hob p hp) hF2.size)
            clear hfull hnl
            go_upto_region 11 with fail
            go_region_with (go_at_call 13; go_must (refine (maskAdd_c _ oa oc out ya yv hoc (hR2.fr ((Fr.refl Non wr).drew) (fun _ => rfl) (by omega) (fun _ _ h => h)) hob2 hol).mono ?_; rintro e w3 ⟨v, rfl, ⟨a3, c3, rfl, h31, h32, h33⟩, hf3⟩))
            all_goals go_wp2
            all_goals go_roundg (l.length - (i + 1))
            all_goals first
              | omega
              | exact ⟨i + 1, c3, a3, addL out ya yv, by omega, rfl, by go_num, rfl, h31, h32, h33, HI.out, hFF.andThen (((Fr.refl Non wr).drew).andThen hf3)⟩
    · have hil : i = l.length := by omega
      subst hil
      have hD := hInv.done
      have HD := Lib.hid hD
      clear hD hInv
      go_wp2
      go_ret
      exact ⟨_, out, rfl, ⟨oa, oc, rfl, hoc, hRo, hob⟩, HD.out.1, HD.out.2, hF⟩

end Go.Proofs.YtglamkopjjimjaaGreat
