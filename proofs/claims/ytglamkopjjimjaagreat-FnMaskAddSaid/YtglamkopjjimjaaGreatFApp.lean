/- append of one element to a slice that the call itself made; comparisons of numbers; a slice that can be read. -/
import Derived.Test.YtglamkopjjimjaaGreatFPlain
set_option linter.unusedVariables false
set_option linter.unusedSimpArgs false
namespace Go.Proofs.YtglamkopjjimjaaGreat
open Go.RowKit

section
variable {P : Program} {ops : Array Oper} {rest : List Oper} {o : Oper} {a : Act} {Q : Exit → Act → World → Prop} {α : Type} {e : TypeId} {k bytes : Nat} {enc : α → List Value} {xs : List α} {w0 w : World}
/-- 'append(s, y)' where s was made since the world w0, and y lies in the newest block. -/
theorem wl_appN (hgd : o.guard = none) (s x : Operand) (t : TypeId) (ho : o.op = .call { callee := .builtin .append, args := #[s, x], argTypes := #[t, t] }) (hE : Elem P t e k bytes) (hF : Fr Non w0 w) {sa : Option Addr} {n sc : Nat}
    (hown : Own w w0.heap.size e k enc (.slice sa n sc) xs) (hnx : xs.length = n) (hs : a.eval s = .slice sa n sc) (y : α) (cs : Array Value) (hcs : enc y = cs.toList) {c : Nat} (hx : a.eval x = .slice (some ⟨w.heap.size, 0, none⟩) 1 c)
    (hl : ∀ x, (enc x).length = k) (h1 : ∀ u ∈ enc y, u.oneCell' = true) (hn : n + 1 ≤ 8589934592) (hb : bytes ≤ 16384)
    (hK : ∀ a' c' w', Own w' w0.heap.size e k enc (.slice a' (n + 1) c') (xs ++ [y]) → Fr Non w0 w' → wpList P ops Q rest (a.put o.dst (.slice a' (n + 1) c')) w') :
    wpList P ops Q (o :: rest) a (w.alloc (.cells cs e)) := by
  subst hnx
  have hg : Fr Non w (w.alloc (.cells cs e)) := (Fr.refl Non w).alloc _
  have hsz : (w.alloc (.cells cs e)).heap.size = w.heap.size + 1 := by simp
  have hlo := hown.lt
  have hs0 := hF.size
  refine wl_app hgd s x t ho hE (hown.fr hg (fun _ _ h => h)) hs w.heap.size c y hx hl (fun j u hj => ?_) h1 hn hb (by omega) ?_
  · rw [hcs] at hj
    have : (w.alloc (.cells cs e)).heap[w.heap.size]? = some (.cells cs e) := heap_alloc_new w _
    simp only [World.cell?, this]
    simpa using hj
  · intro a' c' w' hO hf _
    refine hK a' c' w' hO ((hF.andThen hg).then hf (fun i hi e => ?_))
    have := hlo i (by rw [ownBlock_slice]; exact e)
    omega
end

@[go_sem] theorem binOp_geq32 (t : TypeId) (a b : BitVec 32) : binOp .geq t (u32v a) (u32v b) = pure (.bool (decide (b.toNat ≤ a.toNat))) := by
  have : decide ((b.toNat : Int) ≤ (a.toNat : Int)) = decide (b.toNat ≤ a.toNat) := by simp
  rw [← this]; rfl
@[go_sem] theorem binOp_lss32 (t : TypeId) (a b : BitVec 32) : binOp .lss t (u32v a) (u32v b) = pure (.bool (decide (a.toNat < b.toNat))) := by
  have : decide ((a.toNat : Int) < (b.toNat : Int)) = decide (a.toNat < b.toNat) := by simp
  rw [← this]; rfl

/-- a slice whose elements can be read -/
def SlR {α : Type} (w : World) (k : Nat) (enc : α → List Value) (v : Value) (xs : List α) : Prop :=
  ∃ a c, v = .slice a xs.length c ∧ xs.length ≤ c ∧ RdS w a k enc xs ∧ ∀ p : Addr, a = some p → p.block < w.heap.size

theorem SlR.non {α : Type} {w w' : World} {k : Nat} {enc : α → List Value} {v : Value} {xs : List α} (h : SlR w k enc v xs) (hf : Fr Non w w') (hl : ∀ x, (enc x).length = k) (hk : 0 < k) : SlR w' k enc v xs := by
  obtain ⟨a, c, h1, h2, h3, h4⟩ := h
  exact ⟨a, c, h1, h2, h3.fr hf hl hk (fun _ _ h => h), fun p hp => Nat.lt_of_lt_of_le (h4 p hp) hf.size⟩

theorem Own.slr {α : Type} {w : World} {base : Nat} {e : TypeId} {k : Nat} {enc : α → List Value} {v : Value} {xs : List α} (h : Own w base e k enc v xs) (hl : ∀ x, (enc x).length = k) : SlR w k enc v xs := by
  obtain ⟨a, c, h1, h2, h3, _, h4⟩ := h.rd hl
  exact ⟨a, c, h1, h3, h2, fun p hp => (h4 p hp).2⟩

end Go.Proofs.YtglamkopjjimjaaGreat
