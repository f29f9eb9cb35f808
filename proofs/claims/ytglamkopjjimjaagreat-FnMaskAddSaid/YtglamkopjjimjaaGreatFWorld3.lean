/- AddRegister, DiscardRegister. -/
import Derived.Test.YtglamkopjjimjaaGreatFWorld2
import Derived.Test.YtglamkopjjimjaaGreatFMask
set_option linter.unusedVariables false
set_option linter.unusedSimpArgs false
namespace Go.Proofs.YtglamkopjjimjaaGreat
open Go.RowKit

/-- what a step over a mask set's map leaves: whether it turned, and the parts of each number -/
def StepPost (w : World) (b : Nat) (s : LM) (g : BitVec 32 → BitVec 16) (e : Ending) (w' : World) : Prop :=
  ∃ ch s', e = .returned (.bool ch) ∧ SetIs w' b s' ∧ (∀ id, maskOf id s' = g id) ∧ (ch = false ↔ ∀ id, g id = maskOf id s) ∧ Fr (· = b) w w'

def addG (id : BitVec 32) (m : BitVec 16) (s : LM) (k : BitVec 32) : BitVec 16 := if k = id then maskOf id s ||| m else maskOf k s
def discG (id : BitVec 32) (m : BitVec 16) (s : LM) (k : BitVec 32) : BitVec 16 := if k = id then maskOf id s &&& ~~~m else maskOf k s

theorem Add_s (w : World) (b : Nat) (l : LM) (id : BitVec 32) (m : BitVec 16) (hM : SetIs w b l) : Calls Tryz.prog 19 #[.map (some b), u32v id, u16v m] w (StepPost w b l (addG id m l)) := by
  refine (Add_c w b l id m hM).mono ?_
  rintro e w' ⟨rfl, h1, h2, _⟩
  refine ⟨_, _, rfl, h1, fun k => maskOf_addM id m l k, ?_, h2⟩
  rw [addCh_iff]
  constructor
  · intro h k; unfold addG; split
    · rename_i e; rw [h, e]
    · rfl
  · intro h; have := h id; unfold addG at this; rw [if_pos rfl] at this; exact this

theorem Discard_s (w : World) (b : Nat) (l : LM) (id : BitVec 32) (m : BitVec 16) (hM : SetIs w b l) : Calls Tryz.prog 20 #[.map (some b), u32v id, u16v m] w (StepPost w b l (discG id m l)) := by
  refine (Discard_c w b l id m hM).mono ?_
  rintro e w' ⟨rfl, h1, h2, _⟩
  refine ⟨_, _, rfl, h1, fun k => maskOf_discM id m hM.nodup k, ?_, h2⟩
  rw [discCh_iff]
  constructor
  · intro h k; unfold discG; split
    · rename_i e; rw [h, e]
    · rfl
  · intro h; have := h id; unfold discG at this; rw [if_pos rfl] at this; exact this

set_option maxHeartbeats 800000 in
theorem AddRegister_c (w : World) (b : Nat) (l : LM) (r : Rg) (t : TypeId) (x : Value) (hM : SetIs w b l) (hR : RegV w r (.iface t x)) :
    Calls Tryz.prog 22 #[.map (some b), .iface t x] w (StepPost w b l (addG (ridR r) r.spec l)) := by
  go_enter Tryz.func22, Tryz.ntmps22
  go_upto_region 1 with fail
  refine wp_region_lit ?_
  refine wl_val (.map (some b)) rfl rfl ?_
  refine wl_val (.iface t x) rfl rfl ?_
  refine wl_methW _ _ _ rfl rfl _ rfl _ (reg_ID hR) ?_
  intro w1 hf1
  refine wl_val (.iface t x) rfl rfl ?_
  refine wl_methW _ _ _ rfl rfl _ rfl _ (reg_Mask (hR.non hf1)) ?_
  intro w2 hf2
  have hM2 : SetIs w2 b l := (hM.fr hf1 (fun h => h)).fr hf2 (fun h => h)
  go_frame
  go_wp2_with (go_at_call 19; refine (Add_s _ b l _ _ hM2).mono ?_; rintro e w3 ⟨ch, s', rfl, h1, h2, h3, h4⟩)
  go_ret
  exact ⟨ch, s', rfl, h1, h2, h3, ((hf1.andThen hf2).mono (fun _ _ h => h.elim)).andThen h4⟩

set_option maxHeartbeats 800000 in
theorem DiscardRegister_c (w : World) (b : Nat) (l : LM) (r : Rg) (t : TypeId) (x : Value) (hM : SetIs w b l) (hR : RegV w r (.iface t x)) :
    Calls Tryz.prog 23 #[.map (some b), .iface t x] w (StepPost w b l (discG (ridR r) r.spec l)) := by
  go_enter Tryz.func23, Tryz.ntmps23
  go_upto_region 1 with fail
  refine wp_region_lit ?_
  refine wl_val (.map (some b)) rfl rfl ?_
  refine wl_val (.iface t x) rfl rfl ?_
  refine wl_methW _ _ _ rfl rfl _ rfl _ (reg_ID hR) ?_
  intro w1 hf1
  refine wl_val (.iface t x) rfl rfl ?_
  refine wl_methW _ _ _ rfl rfl _ rfl _ (reg_Mask (hR.non hf1)) ?_
  intro w2 hf2
  have hM2 : SetIs w2 b l := (hM.fr hf1 (fun h => h)).fr hf2 (fun h => h)
  go_frame
  go_wp2_with (go_at_call 20; refine (Discard_s _ b l _ _ hM2).mono ?_; rintro e w3 ⟨ch, s', rfl, h1, h2, h3, h4⟩)
  go_ret
  exact ⟨ch, s', rfl, h1, h2, h3, ((hf1.andThen hf2).mono (fun _ _ h => h.elim)).andThen h4⟩

end Go.Proofs.YtglamkopjjimjaaGreat
