/- A slice of entries that comes in. -/
import Derived.Test.YtglamkopjjimjaaGreatFApp
import Derived.ProofKit
import Derived.Deep.SlicePairs
import Derived.OpenShut
set_option linter.unusedVariables false
set_option linter.unusedSimpArgs false
namespace Go.Proofs.YtglamkopjjimjaaGreat
open Go.RowKit Go.Deep

def numOf : Value → Int
  | .int _ n => n
  | _ => 0

theorem u32_of {n : Int} (h : (Lit.int .u32 n).wf = true) : Value.int .u32 n = u32v (BitVec.ofInt 32 n) := by
  have h1 : IntKind.u32.min ≤ n ∧ n ≤ IntKind.u32.max := by simpa [Lit.wf] using h
  have h2 : IntKind.u32.min = 0 := rfl
  have h3 : IntKind.u32.max = 4294967295 := rfl
  unfold u32v
  congr 1
  rw [BitVec.toNat_ofInt]
  omega
theorem u16_of {n : Int} (h : (Lit.int .u16 n).wf = true) : Value.int .u16 n = u16v (BitVec.ofInt 16 n) := by
  have h1 : IntKind.u16.min ≤ n ∧ n ≤ IntKind.u16.max := by simpa [Lit.wf] using h
  have h2 : IntKind.u16.min = 0 := rfl
  have h3 : IntKind.u16.max = 65535 := rfl
  unfold u16v
  congr 1
  rw [BitVec.toNat_ofInt]
  omega
theorem u8_of {n : Int} (h : (Lit.int .u8 n).wf = true) : Value.int .u8 n = u8v (BitVec.ofInt 8 n) := by
  have h1 : IntKind.u8.min ≤ n ∧ n ≤ IntKind.u8.max := by simpa [Lit.wf] using h
  have h2 : IntKind.u8.min = 0 := rfl
  have h3 : IntKind.u8.max = 255 := rfl
  unfold u8v
  congr 1
  rw [BitVec.toNat_ofInt]
  omega

theorem addr_plain {w : World} {a : Addr} {v : Value} (h : w.cell? a = some v) : a = ⟨a.block, a.off, none⟩ := by
  obtain ⟨b, o, s⟩ := a
  cases s with
  | none => rfl
  | some s =>
    simp only [World.cell?, Option.isSome_some, if_true] at h
    split at h <;> cases h

theorem open_live {H : Type} {enc : TypeId × Value → H} {W : World} {base : Nat} {spare : Nat → Bool} {held : Bool} {fuel : Nat} {cs : List Value} {x : DataW H × List MemPlace} (h : DataW.trod enc Tryz.prog W base spare held fuel 22 cs = some x) :
    ∃ a n c, ∃ l : LM, cs = [.slice a n c] ∧ l.length = n ∧ n ≤ c ∧ RdS W a 2 encL l := by
  rcases open_slice_pairs Tryz.underlying22 Tryz.underlying46 (by kernel_rfl) rfl rfl (by kernel_rfl) (by kernel_rfl) h with ⟨rfl, _⟩ | ⟨a, len, cap, m, n, V0, V1, D0, D1, P0, P1, rfl, hb, hl, hm, hmm, hx, hc⟩
  · exact ⟨none, 0, 0, [], rfl, rfl, Nat.le_refl _, RdS.nil _ _ _ _⟩
  · refine ⟨some a, len, cap, (List.range len).map (fun i => (BitVec.ofInt 32 (numOf (V0 i)), BitVec.ofInt 16 (numOf (V1 i)))), rfl, by simp, hl, ?_⟩
    intro hne
    have hlen : 0 < len := by
      rcases Nat.eq_zero_or_pos len with h0 | h0
      · subst h0; simp at hne
      · exact h0
    have hlm : len ≤ m := by rw [hmm]; split <;> omega
    have ha : a = ⟨a.block, a.off, none⟩ := by
      have := addr_plain (hc 0 (by omega)).1
      obtain ⟨b, o, s⟩ := a
      simpa [Addr.add] using this
    refine ⟨a.block, a.off, congrArg some ha, fun i hi j hj => ?_⟩
    have hi' : i < len := by simpa using hi
    obtain ⟨c0, c1, t0, t1⟩ := hc i (by omega)
    obtain ⟨z0, e0, _, w0⟩ := DataW.trod_int Tryz.underlying23 t0
    obtain ⟨z1, e1, _, w1⟩ := DataW.trod_int Tryz.underlying24 t1
    have e0' : V0 i = .int .u32 z0 := by simpa using e0
    have e1' : V1 i = .int .u16 z1 := by simpa using e1
    rw [ha] at c0 c1
    rw [Addr.add_lit] at c0 c1
    simp only [List.getElem_map, List.getElem_range, e0', e1', numOf, encL, ← u32_of w0, ← u16_of w1]
    match j, hj with
    | 0, _ => simpa [e0'] using c0
    | 1, _ => simpa [e1', Nat.add_assoc] using c1

end Go.Proofs.YtglamkopjjimjaaGreat
