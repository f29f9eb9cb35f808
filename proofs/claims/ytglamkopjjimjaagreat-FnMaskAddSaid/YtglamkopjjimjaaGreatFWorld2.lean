/- The world of registers: 'physical', 'reg', AddRegister, DiscardRegister. -/
import Derived.Test.YtglamkopjjimjaaGreatFWorld
import Derived.Deep.Cut
import Derived.Deep.RegionWith
set_option linter.unusedVariables false
set_option linter.unusedSimpArgs false
namespace Go.Proofs.YtglamkopjjimjaaGreat
open Go.RowKit

theorem famFind_spec {i s : BitVec 16} {l : List PR} {p : PR} (h : famFind i s l = some p) : p.idx = i ∧ p.spec = s := by
  have := List.find?_some h
  simpa [fits] using this

def physQ (k : Nat) (i s : BitVec 16) : Option Rg := if k < 4 ∧ (famFind i s (tab k)).isSome then some ⟨false, BitVec.ofNat 8 k, i, s⟩ else none

theorem PhysRes {w1 : World} {fb k : Nat} {i s : BitVec 16} (h4 : k < 4) (hF : FamIs w1 fb (BitVec.ofNat 8 k) (tab k)) :
    (physQ k i s = none ∧ lookV (BitVec.ofNat 8 k) fb (famFind i s (tab k)) = .nilIface) ∨ (∃ q t x, physQ k i s = some q ∧ lookV (BitVec.ofNat 8 k) fb (famFind i s (tab k)) = .iface t x ∧ RegV w1 q (lookV (BitVec.ofNat 8 k) fb (famFind i s (tab k)))) := by
  unfold physQ
  cases hq : famFind i s (tab k) with
  | none => exact .inl ⟨by simp, rfl⟩
  | some q =>
    obtain ⟨t, x, htx⟩ := pregV_iface (BitVec.ofNat 8 k) fb q
    refine .inr ⟨⟨false, BitVec.ofNat 8 k, i, s⟩, t, x, by simp [h4], htx, ?_⟩
    have := hF.pregV q
    obtain ⟨e1, e2⟩ := famFind_spec hq
    rw [e1, e2] at this
    exact this

theorem FamRow.some {w : World} {fb : Nat} {k : BitVec 8} {l : List PR} (h : FamIs w fb k l) : ∃ L : List Nat, (∀ j, FamRow w fb j ↔ j ∈ L) := by
  obtain ⟨a, c, h1, h2⟩ := h
  have hc : w.cell? ⟨fb, 1, none⟩ = .some (.slice a l.length c) := by simp [World.cell?, h1]
  cases a with
  | none =>
    refine ⟨[], fun j => ⟨?_, by simp⟩⟩
    rintro ⟨a, n, c, h3, h4⟩; rw [hc] at h3; cases h3; simp at h4
  | some ad =>
    refine ⟨[ad.block], fun j => ⟨?_, ?_⟩⟩
    · rintro ⟨a, n, c, h3, h4⟩; rw [hc] at h3; cases h3; simp at h4; simp [h4]
    · intro hj; simp at hj; subst hj; exact ⟨_, _, _, hc, rfl⟩

theorem WorldIs.store {w w' : World} {B wb k fb : Nat} {fp : List Nat} {p : Nat → Option Nat} (h : WorldIs w wb fp p) (h4 : k < 4) (hp : p k = none)
    (hf : Fr (· = wb) w w') (hF : FamIs w' fb (BitVec.ofNat 8 k) (tab k)) (hne : fb ≠ wb) (hfb : B ≤ fb) (hrow : ∀ j, FamRow w' fb j → wb < j ∧ B ≤ j)
    (hw' : w' = w.setCell ⟨wb, k, none⟩ (.pointer (some ⟨fb, 0, none⟩))) : ∃ fp' p', WorldIs w' wb fp' p' ∧ (∀ j ∈ fp', j ∈ fp ∨ B ≤ j) ∧ p' k = some fb := by
  obtain ⟨L, hL⟩ := FamRow.some hF
  refine ⟨fb :: (L ++ fp), fun n => if n = k then some fb else p n, ⟨?_, ?_, ?_, ?_⟩, ?_, if_pos rfl⟩
  · rw [hw']
    simp only [World.setCell, Array.getElem?_modify, if_true, h.block, Option.map_some]
    match k, h4 with
    | 0, _ => rfl
    | 1, _ => rfl
    | 2, _ => rfl
    | 3, _ => rfl
  · simp [h.self]
  · intro j hj
    rcases List.mem_cons.1 hj with rfl | hj
    · exact hF.lt
    · rcases List.mem_append.1 hj with hj | hj
      · exact (hF.row ((hL j).2 hj)).2
      · exact Nat.lt_of_lt_of_le (h.inside j hj) hf.size
  · intro n hn gb hgb
    split at hgb
    · rename_i e; cases hgb; subst e
      exact ⟨hF, ⟨by simp, hne⟩, fun j hj => ⟨by simp [(hL j).1 hj], by have := hrow j hj; omega⟩⟩
    · obtain ⟨g1, g2, g3⟩ := h.fams n hn gb hgb
      refine ⟨g1.fr hf g2.2 (fun j hj => (g3 j hj).2), ⟨by simp [g2.1], g2.2⟩, fun j hj => ?_⟩
      have := g3 j (hj.fr hf g1.lt g2.2)
      exact ⟨by simp [this.1], this.2⟩
  · intro j hj
    rcases List.mem_cons.1 hj with rfl | hj
    · exact .inr hfb
    · rcases List.mem_append.1 hj with hj | hj
      · exact .inr (hrow j ((hL j).2 hj)).2
      · exact .inl hj

/-- what 'physical' hands back -/
def PhysPost (w : World) (wb : Nat) (fp : List Nat) (r : Option Rg) (e : Ending) (w' : World) : Prop :=
  ∃ v fp' p', e = .returned v ∧ WorldIs w' wb fp' p' ∧ (∀ j ∈ fp', j ∈ fp ∨ w.heap.size ≤ j) ∧ Fr (· = wb) w w' ∧ ((r = none ∧ v = .nilIface) ∨ (∃ q t x, r = some q ∧ v = .iface t x ∧ RegV w' q v))

set_option maxHeartbeats 1600000 in
theorem physical_c (w : World) (wb : Nat) (fp : List Nat) (p : Nat → Option Nat) (k : Nat) (i s : BitVec 16) (hW : WorldIs w wb fp p) (hk : k < 256) :
    Calls Tryz.prog 30 #[.pointer (some ⟨wb, 0, none⟩), .int .u8 (k : Int), u16v i, u16v s] w (PhysPost w wb fp (physQ k i s)) := by
  by_cases h4 : k < 4
  · obtain ⟨hc, hz⟩ := hW.cell h4
    have hlt := hW.lt
    have hL := tab_len k h4
    cases hp : p k with
    | some fb =>
      rw [hp] at hc
      obtain ⟨hF, hfb, hrow⟩ := hW.fams k h4 fb hp
      go_enter Tryz.func30, Tryz.ntmps30
      unfold pv at hc
      simp only [Option.map_some] at hc
      go_wp2_with (go_at_call 38; refine (FLookup_c _ fb _ _ i s hF hL).mono ?_; rintro e w1 ⟨rfl, hf1⟩)
      go_ret
      exact ⟨lookV (BitVec.ofNat 8 k) fb (famFind i s (tab k)), fp, p, rfl, hW.fr hf1 (fun _ _ h => h), fun j hj => .inl hj, hf1.mono (fun _ _ h => h.elim), PhysRes h4 (hF.fr hf1 (fun h => h) (fun _ _ h => h))⟩
    | none =>
      rw [hp] at hc
      unfold pv at hc
      simp only [Option.map_none] at hc
      go_enter Tryz.func30, Tryz.ntmps30
      go_upto_region 4 with fail
      go_region_with (go_at_call 37; go_must (refine (Fam_c _ k h4).mono ?_; rintro e w1 ⟨fb, rfl, hfb, hF, hf1⟩; have hc1 := hf1.cell (p := ⟨wb, k, none⟩) hc (fun h => h); have hz1 := hf1.fz (p := ⟨wb, k, none⟩) hc hz (fun h => h)))
      have hfb' : w.heap.size ≤ fb := hfb
      have hf1' : Fr Non w w1 := (Fr.refl Non w).drew.andThen hf1
      clear hfb hf1
      have hW1 : WorldIs w1 wb fp p := hW.fr hf1' (fun _ _ h => h)
      have hne : fb ≠ wb := by omega
      have hrow1 : ∀ j, FamRow w1 fb j → wb < j ∧ w.heap.size ≤ j := fun j hj => by have := hF.row hj; omega
      have hf2 : Fr (· = wb) w1 (w1.setCell ⟨wb, k, none⟩ (.pointer (some ⟨fb, 0, none⟩))) := (Fr.refl (· = wb) w1).setCell (.inr rfl) _
      have hF2 := hF.fr hf2 hne (fun j hj e => by have := hrow1 j hj; omega)
      have hW2 : ∃ fp' p', WorldIs (w1.setCell ⟨wb, k, none⟩ (.pointer (some ⟨fb, 0, none⟩))) wb fp' p' ∧ (∀ j ∈ fp', j ∈ fp ∨ w.heap.size ≤ j) ∧ p' k = some fb := hW1.store h4 hp hf2 hF2 hne hfb' (fun j hj => hrow1 j (hj.fr hf2 hF.lt hne)) rfl
      have hc2 : (w1.setCell ⟨wb, k, none⟩ (.pointer (some ⟨fb, 0, none⟩))).cell? ⟨wb, k, none⟩ = some (.pointer (some ⟨fb, 0, none⟩)) := by
        obtain ⟨fp', p', h1, _, h3⟩ := hW2
        have := (h1.cell h4).1
        rw [h3] at this
        exact this
      generalize hw2 : w1.setCell ⟨wb, k, none⟩ (.pointer (some ⟨fb, 0, none⟩)) = w2 at *
      clear hc hz hc1 hz1 hW1
      go_wp2_with (go_at_call 38; refine (FLookup_c _ fb _ _ i s hF2 hL).mono ?_; rintro e w3 ⟨rfl, hf3⟩)
      go_ret
      obtain ⟨fp', p', hW2, hfp, _⟩ := hW2
      exact ⟨lookV (BitVec.ofNat 8 k) fb (famFind i s (tab k)), fp', p', rfl, hW2.fr hf3 (fun _ _ h => h), hfp, ((hf1'.mono (fun _ _ h => h.elim)).andThen hf2).then hf3 (fun _ _ h => h.elim), PhysRes h4 (hF2.fr hf3 (fun h => h) (fun _ _ h => h))⟩
  · go_enter Tryz.func30, Tryz.ntmps30
    go_wp2
    go_ret
    refine ⟨_, fp, p, rfl, hW, fun j hj => .inl hj, Fr.refl _ _, .inl ⟨?_, rfl⟩⟩
    unfold physQ
    rw [if_neg (fun h => h4 h.1)]

/-- a register as it is handed to the package -/
def regEnc (r : Rg) : List Value := [.bool r.virt, u8v r.kind, u16v r.idx, u16v r.spec]
def isReg (r : Rg) : Bool := r.virt || (physQ r.kind.toNat r.idx r.spec).isSome

theorem physQ_eq {r q : Rg} (hv : r.virt = false) (h : physQ r.kind.toNat r.idx r.spec = some q) : q = r := by
  unfold physQ at h
  split at h
  · cases h; obtain ⟨v, k, i, s⟩ := r; simp at hv; subst hv; simp
  · cases h

def RegPost (w : World) (wb : Nat) (fp : List Nat) (r : Rg) (e : Ending) (w' : World) : Prop :=
  ∃ v fp' p', e = .returned (.tuple #[v, .bool (isReg r)]) ∧ WorldIs w' wb fp' p' ∧ (∀ j ∈ fp', j ∈ fp ∨ w.heap.size ≤ j) ∧ Fr (· = wb) w w' ∧ (isReg r = true → ∃ t x, v = .iface t x ∧ RegV w' r v)

theorem regVirt_iface (k : BitVec 8) (i s : BitVec 16) : ∃ t x, regVirt k i s = .iface t x := by
  unfold regVirt virtV
  split
  · exact ⟨_, _, rfl⟩
  · split
    · exact ⟨_, _, rfl⟩
    · split <;> exact ⟨_, _, rfl⟩

set_option maxHeartbeats 1600000 in
theorem wreg_c (w : World) (wb : Nat) (fp : List Nat) (p : Nat → Option Nat) (r : Rg) (hW : WorldIs w wb fp p) :
    Calls Tryz.prog 21 #[.pointer (some ⟨wb, 0, none⟩), .agg #[.bool r.virt, u8v r.kind, u16v r.idx, u16v r.spec]] w (RegPost w wb fp r) := by
  obtain ⟨vt, k, i, s⟩ := r
  cases vt with
  | true =>
    obtain ⟨t, x, htx⟩ := regVirt_iface k i s
    go_enter Tryz.func21, Tryz.ntmps21
    go_wp2_with (go_at_call 29; refine (ZZVirtual_c _ _ _ _).mono ?_; rintro e w' ⟨rfl, rfl⟩)
    have hf : Fr Non w (w.alloc (.cells #[.bool true, u8v k, u16v i, u16v s] 27)) := (Fr.refl _ _).alloc _
    go_ret2
    exact ⟨.iface t x, fp, p, rfl, hW.fr hf (fun _ _ h => h), fun j hj => .inl hj, hf.mono (fun _ _ h => h.elim), fun _ => ⟨t, x, rfl, by unfold RegV; simp [htx]⟩⟩
  | false =>
    have hf : Fr Non w (w.alloc (.cells #[.bool false, u8v k, u16v i, u16v s] 27)) := (Fr.refl _ _).alloc _
    have hph := physical_c _ wb fp p k.toNat i s (hW.fr hf (fun _ _ h => h)) (by have := k.isLt; omega)
    have Hph := Lib.hid hph
    clear hph
    go_enter Tryz.func21, Tryz.ntmps21
    go_wp2_with (go_at_call 30; go_must (refine Hph.out.mono ?_; rintro e w1 ⟨v, fp1, p1, rfl, hW1, hfp1, hf1, hres⟩))
    have hfr : Fr (· = wb) w w1 := (hf.mono (fun _ _ h => h.elim)).andThen hf1
    have hfp : ∀ j ∈ fp1, j ∈ fp ∨ w.heap.size ≤ j := fun j hj => (hfp1 j hj).imp id (fun h => by simp at h; omega)
    have hfr' := Lib.hid hfr
    clear hfr hf1 Hph hf
    rcases hres with ⟨hq, rfl⟩ | ⟨q, t, x, hq, rfl, hR⟩
    · have hi : isReg ⟨false, k, i, s⟩ = false := by unfold isReg; rw [hq]; rfl
      go_region
      go_wp2
      go_ret2
      unfold RegPost
      rw [hi]
      exact ⟨.nilIface, fp1, p1, rfl, hW1.fr ((Fr.refl Non _).drew) (fun _ _ h => h), hfp, hfr'.out.drew, fun h => by cases h⟩
    · have hi : isReg ⟨false, k, i, s⟩ = true := by unfold isReg; rw [hq]; rfl
      have hqr := physQ_eq (r := ⟨false, k, i, s⟩) rfl hq
      subst hqr
      go_region
      go_wp2
      go_ret2
      unfold RegPost
      rw [hi]
      exact ⟨.iface t x, fp1, p1, rfl, hW1.fr ((Fr.refl Non _).drew) (fun _ _ h => h), hfp, hfr'.out.drew, fun _ => ⟨t, x, rfl, hR.non ((Fr.refl Non _).drew)⟩⟩

end Go.Proofs.YtglamkopjjimjaaGreat
