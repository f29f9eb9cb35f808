/- append of a whole slice to a slice that the call itself made. -/
import Derived.Test.YtglamkopjjimjaaGreatFApp
set_option linter.unusedVariables false
set_option linter.unusedSimpArgs false
namespace Go.Proofs.YtglamkopjjimjaaGreat
open Go.RowKit

section
variable {P : Program} {ops : Array Oper} {rest : List Oper} {o : Oper} {a : Act} {Q : Exit → Act → World → Prop} {α : Type} {e : TypeId} {k bytes : Nat} {enc : α → List Value} {xs : List α} {w0 w : World}

theorem flatMap_len (hl : ∀ x, (enc x).length = k) (ys : List α) : (ys.flatMap enc).length = ys.length * k := by
  induction ys with
  | nil => simp
  | cons y ys ih => rw [List.flatMap_cons, List.length_append, hl, ih, List.length_cons, Nat.succ_mul]; omega

/-- 'append(s, ys...)' where s was made since the world w0 -/
theorem wl_appAll (hgd : o.guard = none) (s x : Operand) (t : TypeId) (ho : o.op = .call { callee := .builtin .append, args := #[s, x], argTypes := #[t, t] }) (hE : Elem P t e k bytes) (hF : Fr Non w0 w) {sa : Option Addr} {n sc : Nat}
    (hown : Own w w0.heap.size e k enc (.slice sa n sc) xs) (hnx : xs.length = n) (hs : a.eval s = .slice sa n sc) (ys : List α) (ad : Addr) (m c : Nat) (hm : ys.length = m) (hx : a.eval x = .slice (some ad) m c) (hR : RdS w (some ad) k enc ys)
    (hl : ∀ x, (enc x).length = k) (h1 : ∀ y, ∀ u ∈ enc y, u.oneCell' = true) (hn : n + m ≤ 8589934592) (hb : bytes ≤ 16384)
    (hK : ∀ a' c' w', Own w' w0.heap.size e k enc (.slice a' (n + m) c') (xs ++ ys) → Fr Non w0 w' → wpList P ops Q rest (a.put o.dst (.slice a' (n + m) c')) w') :
    wpList P ops Q (o :: rest) a w := by
  subst hnx hm
  have hlo := hown.lt
  have hs0 := hF.size
  obtain ⟨hu, ⟨i, z, hi, hz, hsz, hby, hzs⟩, hp⟩ := hE
  refine wpList_append_own_at w hgd s x t ho w0.heap.size e i z k bytes hu hi hz hsz hby hzs hp _ xs.length (xs.flatMap enc) hs hown ad ys.length c (ys.flatMap enc) hx (flatMap_len hl ys) (fun j u hj => ?_) ?_
    (by unfold maxLen; omega) ?_ hs0 fun v' w' h2 h3 _ h5 => ?_
  · have hjl : j < ys.length * k := by
      have := (List.getElem?_eq_some_iff.1 hj).1
      rwa [flatMap_len hl] at this
    have hi1 : j / k < ys.length := Nat.div_lt_of_lt_mul (by rw [Nat.mul_comm]; exact hjl)
    obtain ⟨blk, off, had, hc⟩ := hR (fun e => by rw [e] at hjl; simp at hjl)
    cases had
    have hjr : j % k < k := Nat.mod_lt _ hp
    have h := hc (j / k) hi1 (j % k) hjr
    rw [← flatMap_get hl ys (j / k) hi1 (j % k) hjr] at h
    have ej : j / k * k + j % k = j := by rw [Nat.mul_comm]; exact Nat.div_add_mod j k
    rw [ej, hj] at h
    rw [Addr.add_lit, ← h]
    have : off + j / k * k + j % k = off + j := by omega
    rw [this]
  · intro u hu
    obtain ⟨y, _, hy⟩ := List.mem_flatMap.1 hu
    exact h1 y u hy
  · have : (xs.length + ys.length) * bytes ≤ 8589934592 * 16384 := Nat.mul_le_mul hn hb
    omega
  · have hO : Own w' w0.heap.size e k enc v' (xs ++ ys) := by
      unfold Own
      rw [List.length_append, List.flatMap_append]
      exact h2
    obtain ⟨a', c', hv, _⟩ := hO.rd hl
    rw [List.length_append] at hv
    subst hv
    refine hK a' c' w' hO (hF.then (Fr.of_grown h3) (fun i hi e => ?_))
    have := hlo i e.symm
    omega

/-- 'wl_appN' where the newest block's number is written in another way -/
theorem wl_appB (hgd : o.guard = none) (s x : Operand) (t : TypeId) (ho : o.op = .call { callee := .builtin .append, args := #[s, x], argTypes := #[t, t] }) (hE : Elem P t e k bytes) (hF : Fr Non w0 w) {sa : Option Addr} {n sc : Nat}
    (hown : Own w w0.heap.size e k enc (.slice sa n sc) xs) (hnx : xs.length = n) (hs : a.eval s = .slice sa n sc) (y : α) (cs : Array Value) (hcs : enc y = cs.toList) (b : Nat) (hbz : b = w.heap.size) {c : Nat} (hx : a.eval x = .slice (some ⟨b, 0, none⟩) 1 c)
    (hl : ∀ x, (enc x).length = k) (h1 : ∀ u ∈ enc y, u.oneCell' = true) (hn : n + 1 ≤ 8589934592) (hb : bytes ≤ 16384)
    (hK : ∀ a' c' w', Own w' w0.heap.size e k enc (.slice a' (n + 1) c') (xs ++ [y]) → Fr Non w0 w' → wpList P ops Q rest (a.put o.dst (.slice a' (n + 1) c')) w') :
    wpList P ops Q (o :: rest) a (w.alloc (.cells cs e)) := by
  subst hbz
  exact wl_appN hgd s x t ho hE hF hown hnx hs y cs hcs hx hl h1 hn hb hK

/-- a slice made with no element -/
theorem Own.empty {w : World} {base : Nat} {e : TypeId} {k : Nat} (enc : α → List Value) (hb : base ≤ w.heap.size) : Own (w.alloc (.cells #[] e)) base e k enc (.slice (some ⟨w.heap.size, 0, none⟩) 0 0) ([] : List α) := by
  refine ⟨by simp, .inr ⟨w.heap.size, 0, #[], rfl, hb, heap_alloc_new w _, Nat.le_refl _, Nat.zero_le _, by simp, by simp⟩⟩
end

end Go.Proofs.YtglamkopjjimjaaGreat
