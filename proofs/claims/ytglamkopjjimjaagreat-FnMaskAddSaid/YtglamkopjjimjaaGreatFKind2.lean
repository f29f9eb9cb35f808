/- FamilyOfKind, kind by kind. -/
import Derived.Test.YtglamkopjjimjaaGreatFKind
set_option linter.unusedVariables false
set_option linter.unusedSimpArgs false
namespace Go.Proofs.YtglamkopjjimjaaGreat
open Go.RowKit

def FamPost (w : World) (k : BitVec 8) (l : List PR) (e : Ending) (w' : World) : Prop := ∃ fb, e = .returned (.pointer (some ⟨fb, 0, none⟩)) ∧ w.heap.size ≤ fb ∧ FamIs w' fb k l ∧ Fr Non w w'

/-- a look at the kind: two slots -/
theorem fam_test {k c : BitVec 8} {n : Int} (hn : Value.int .u8 n = u8v c) {fb : Nat} {w : World} {Q : Exit → Act → World → Prop} {x y : Code} {i t1 t2 y1 y2 : Nat} {p1 p2 : String} {e1 e2 : Array Edge} {a : Act} (hA : FA a k fb) (ht : 8 ≤ t1 ∧ 8 ≤ t2 ∧ t1 < 1066 ∧ t2 < 1066)
    (hx : k = c → ∀ a', FA a' k fb → x.wp Tryz.prog Q a' w) (hy : k ≠ c → ∀ a', FA a' k fb → y.wp Tryz.prog Q a' w) :
    ((Code.region i [(⟨some t1, .binOp .eql 70 (.tmp 7) (.const (.int .u8 n)) 70, y1, p1, e1, none⟩ : Oper), ⟨some t2, .assign (.tmp t1), y2, p2, e2, none⟩].toArray false).seq (Code.cond (.tmp t2) x y)).wp Tryz.prog Q a w := by
  refine wp_seq (wp_region_lit (wl_val (.bool (k == c)) rfl (by
    have e1 : a.eval (.const (.int .u8 n)) = u8v c := hn
    simp only [execOp, Sem.run_bind, hA.kind, e1, eqGuard_88, binOp_eql8]; rfl) ?_))
  have h1 := hA.put (t := t1) (by omega) (.bool (k == c))
  have g1 : (a.put (some t1) (.bool (k == c))).eval (.tmp t1) = .bool (k == c) := put_same (by rw [hA.size]; omega)
  show wpList _ _ _ _ (a.put (some t1) (.bool (k == c))) w
  generalize (a.put (some t1) (.bool (k == c))) = a1 at *
  refine wl_val (.bool (k == c)) rfl (by simp only [execOp, pure, Sem.run]; rw [g1]) (wpList_nil ?_)
  have h2 := h1.put (t := t2) (by omega) (.bool (k == c))
  have g2 : (a1.put (some t2) (.bool (k == c))).eval (.tmp t2) = .bool (k == c) := put_same (by rw [h1.size]; omega)
  show Code.wp _ _ _ (a1.put (some t2) (.bool (k == c))) w
  generalize (a1.put (some t2) (.bool (k == c))) = a2 at *
  by_cases h : k = c
  · exact wp_cond_true (by rw [g2]; simp [h]) (hx h _ h2)
  · exact wp_cond_false (by rw [g2]; simp [h]) (hy h _ h2)

/-- the end: the family's pointer is handed back -/
theorem fam_end {k : BitVec 8} {fb : Nat} {w0 w : World} {l : List PR} {a : Act} {i y1 y2 : Nat} {p1 p2 : String} {e1 e2 : Array Edge} (hA : FA a k fb) (hF : FamIs w fb k l) (hB : Below w0.heap.size w0 w) (hfb : w0.heap.size ≤ fb) :
    ((Code.region i [(⟨some 1065, .move (.tmp 3), y1, p1, e1, none⟩ : Oper), ⟨some 2, .assign (.tmp 1065), y2, p2, e2, none⟩].toArray false).seq Code.ret).wp Tryz.prog (bodyPost Tryz.prog Tryz.f37 (FamPost w0 k l)) a w := by
  refine wp_seq (wp_region_lit (wl_val (.pointer (some ⟨fb, 0, none⟩)) rfl (by simp only [execOp, pure, Sem.run]; rw [hA.fam]) ?_))
  have h1 := hA.put (t := 1065) (by omega) (.pointer (some ⟨fb, 0, none⟩))
  have g1 : (a.put (some 1065) (.pointer (some ⟨fb, 0, none⟩))).eval (.tmp 1065) = .pointer (some ⟨fb, 0, none⟩) := put_same (by rw [hA.size]; omega)
  show wpList _ _ _ _ (a.put (some 1065) (.pointer (some ⟨fb, 0, none⟩))) w
  generalize (a.put (some 1065) (.pointer (some ⟨fb, 0, none⟩))) = a1 at *
  refine wl_val (.pointer (some ⟨fb, 0, none⟩)) rfl (by simp only [execOp, pure, Sem.run]; rw [g1]) (wpList_nil ?_)
  have g2 : (a1.put (some 2) (.pointer (some ⟨fb, 0, none⟩))).tmps.getD 2 undef = .pointer (some ⟨fb, 0, none⟩) := put_same (a := a1) (by rw [h1.size]; omega)
  refine wp_ret ?_
  exact bodyPost_ret (results_tmp rfl _ _ _) ((put_defers _ _).trans h1.defers) ⟨fb, congrArg Ending.returned g2, hfb, hF, Fr.of_below hB⟩

theorem start0 (x : Value) (r : Array Value) : Act.eval { tmps := #[x] ++ r, defers := [] } (.tmp 0) = x := by
  simp [Act.eval, Array.getD_eq_getD_getElem?, Array.getElem?_append]

set_option maxRecDepth 100000 in
set_option maxHeartbeats 4000000 in
theorem FamK_c (w : World) : Calls Tryz.prog 37 #[u8v 3#8] w (FamPost w 3#8 tabK) := by
  refine calls_of_wp Tryz.func37 rfl ?_
  refine fam_start (k := 3#8) _ ?_ rfl ?_ ?_
  · simp
  · exact start0 _ _
  intro a hA hF
  have hB0 : Below w.heap.size w (w.alloc (.cells #[u8v 3#8, .slice none 0 0] 116)) := (Below.refl _ _).alloc (Nat.le_refl _) _
  generalize hw0 : (w.alloc (.cells #[u8v 3#8, .slice none 0 0] 116)) = w0 at *
  have hl : ([] : List PR).length ≤ 0 := Nat.le_refl _
  refine wp_block ?_
  refine fam_test (c := 0#8) rfl hA (by decide) (fun h => absurd h (by decide)) (fun _ a hA => ?_)
  refine fam_test (c := 1#8) rfl hA (by decide) (fun h => absurd h (by decide)) (fun _ a hA => ?_)
  refine fam_test (c := 2#8) rfl hA (by decide) (fun h => absurd h (by decide)) (fun _ a hA => ?_)
  refine fam_test (c := 3#8) rfl hA (by decide) (fun _ a hA => ?_) (fun h => absurd rfl h)
  refine wp_seq (lineI1 0 (by decide) hA hF hl rfl (by decide) (by decide) (by decide) (by decide) (by decide) (fun a w1 hA hF hl hB => ?_))
  replace hB0 := hB0.trans hB
  clear hB
  refine wp_seq (lineI0 1 (by decide) hA hF hl rfl (by decide) (by decide) (by decide) (by decide) (fun a w1 hA hF hl hB => ?_))
  replace hB0 := hB0.trans hB
  clear hB
  refine wp_seq (lineI0 2 (by decide) hA hF hl rfl (by decide) (by decide) (by decide) (by decide) (fun a w1 hA hF hl hB => ?_))
  replace hB0 := hB0.trans hB
  clear hB
  refine wp_seq (lineI0 3 (by decide) hA hF hl rfl (by decide) (by decide) (by decide) (by decide) (fun a w1 hA hF hl hB => ?_))
  replace hB0 := hB0.trans hB
  clear hB
  refine wp_seq (lineI0 4 (by decide) hA hF hl rfl (by decide) (by decide) (by decide) (by decide) (fun a w1 hA hF hl hB => ?_))
  replace hB0 := hB0.trans hB
  clear hB
  refine wp_seq (lineI0 5 (by decide) hA hF hl rfl (by decide) (by decide) (by decide) (by decide) (fun a w1 hA hF hl hB => ?_))
  replace hB0 := hB0.trans hB
  clear hB
  refine wp_seq (lineI0 6 (by decide) hA hF hl rfl (by decide) (by decide) (by decide) (by decide) (fun a w1 hA hF hl hB => ?_))
  replace hB0 := hB0.trans hB
  clear hB
  refine lineI0 7 (by decide) hA hF hl rfl (by decide) (by decide) (by decide) (by decide) (fun a w1 hA hF hl hB => ?_)
  replace hB0 := hB0.trans hB
  clear hB
  exact fam_end hA hF hB0 (Nat.le_refl _)

set_option maxRecDepth 100000 in
set_option maxHeartbeats 4000000 in
theorem FamGP_c (w : World) : Calls Tryz.prog 37 #[u8v 1#8] w (FamPost w 1#8 tabGP) := by
  refine calls_of_wp Tryz.func37 rfl ?_
  refine fam_start (k := 1#8) _ ?_ rfl ?_ ?_
  · simp
  · exact start0 _ _
  intro a hA hF
  have hB0 : Below w.heap.size w (w.alloc (.cells #[u8v 1#8, .slice none 0 0] 116)) := (Below.refl _ _).alloc (Nat.le_refl _) _
  generalize hw0 : (w.alloc (.cells #[u8v 1#8, .slice none 0 0] 116)) = w0 at *
  have hl : ([] : List PR).length ≤ 0 := Nat.le_refl _
  refine wp_block ?_
  refine fam_test (c := 0#8) rfl hA (by decide) (fun h => absurd h (by decide)) (fun _ a hA => ?_)
  refine fam_test (c := 1#8) rfl hA (by decide) (fun _ a hA => ?_) (fun h => absurd rfl h)
  refine wp_seq (lineI0 0 (by decide) hA hF hl rfl (by decide) (by decide) (by decide) (by decide) (fun a w1 hA hF hl hB => ?_))
  replace hB0 := hB0.trans hB
  clear hB
  refine wp_seq (lineI0 1 (by decide) hA hF hl rfl (by decide) (by decide) (by decide) (by decide) (fun a w1 hA hF hl hB => ?_))
  replace hB0 := hB0.trans hB
  clear hB
  refine wp_seq (lineI0 2 (by decide) hA hF hl rfl (by decide) (by decide) (by decide) (by decide) (fun a w1 hA hF hl hB => ?_))
  replace hB0 := hB0.trans hB
  clear hB
  refine wp_seq (lineI0 3 (by decide) hA hF hl rfl (by decide) (by decide) (by decide) (by decide) (fun a w1 hA hF hl hB => ?_))
  replace hB0 := hB0.trans hB
  clear hB
  refine wp_seq (lineI0 4 (by decide) hA hF hl rfl (by decide) (by decide) (by decide) (by decide) (fun a w1 hA hF hl hB => ?_))
  replace hB0 := hB0.trans hB
  clear hB
  refine wp_seq (lineI0 5 (by decide) hA hF hl rfl (by decide) (by decide) (by decide) (by decide) (fun a w1 hA hF hl hB => ?_))
  replace hB0 := hB0.trans hB
  clear hB
  refine wp_seq (lineI0 6 (by decide) hA hF hl rfl (by decide) (by decide) (by decide) (by decide) (fun a w1 hA hF hl hB => ?_))
  replace hB0 := hB0.trans hB
  clear hB
  refine wp_seq (lineI0 7 (by decide) hA hF hl rfl (by decide) (by decide) (by decide) (by decide) (fun a w1 hA hF hl hB => ?_))
  replace hB0 := hB0.trans hB
  clear hB
  refine wp_seq (lineI1 8 (by decide) hA hF hl rfl (by decide) (by decide) (by decide) (by decide) (by decide) (fun a w1 hA hF hl hB => ?_))
  replace hB0 := hB0.trans hB
  clear hB
  refine wp_seq (lineI1 9 (by decide) hA hF hl rfl (by decide) (by decide) (by decide) (by decide) (by decide) (fun a w1 hA hF hl hB => ?_))
  replace hB0 := hB0.trans hB
  clear hB
  refine wp_seq (lineI0 10 (by decide) hA hF hl rfl (by decide) (by decide) (by decide) (by decide) (fun a w1 hA hF hl hB => ?_))
  replace hB0 := hB0.trans hB
  clear hB
  refine wp_seq (lineI0 11 (by decide) hA hF hl rfl (by decide) (by decide) (by decide) (by decide) (fun a w1 hA hF hl hB => ?_))
  replace hB0 := hB0.trans hB
  clear hB
  refine wp_seq (lineI0 12 (by decide) hA hF hl rfl (by decide) (by decide) (by decide) (by decide) (fun a w1 hA hF hl hB => ?_))
  replace hB0 := hB0.trans hB
  clear hB
  refine wp_seq (lineI0 13 (by decide) hA hF hl rfl (by decide) (by decide) (by decide) (by decide) (fun a w1 hA hF hl hB => ?_))
  replace hB0 := hB0.trans hB
  clear hB
  refine wp_seq (lineI0 14 (by decide) hA hF hl rfl (by decide) (by decide) (by decide) (by decide) (fun a w1 hA hF hl hB => ?_))
  replace hB0 := hB0.trans hB
  clear hB
  refine wp_seq (lineI0 15 (by decide) hA hF hl rfl (by decide) (by decide) (by decide) (by decide) (fun a w1 hA hF hl hB => ?_))
  replace hB0 := hB0.trans hB
  clear hB
  refine wp_seq (lineI0 16 (by decide) hA hF hl rfl (by decide) (by decide) (by decide) (by decide) (fun a w1 hA hF hl hB => ?_))
  replace hB0 := hB0.trans hB
  clear hB
  refine wp_seq (lineI0 17 (by decide) hA hF hl rfl (by decide) (by decide) (by decide) (by decide) (fun a w1 hA hF hl hB => ?_))
  replace hB0 := hB0.trans hB
  clear hB
  refine wp_seq (lineI0 18 (by decide) hA hF hl rfl (by decide) (by decide) (by decide) (by decide) (fun a w1 hA hF hl hB => ?_))
  replace hB0 := hB0.trans hB
  clear hB
  refine wp_seq (lineI0 19 (by decide) hA hF hl rfl (by decide) (by decide) (by decide) (by decide) (fun a w1 hA hF hl hB => ?_))
  replace hB0 := hB0.trans hB
  clear hB
  refine wp_seq (lineI0 20 (by decide) hA hF hl rfl (by decide) (by decide) (by decide) (by decide) (fun a w1 hA hF hl hB => ?_))
  replace hB0 := hB0.trans hB
  clear hB
  refine wp_seq (lineI0 21 (by decide) hA hF hl rfl (by decide) (by decide) (by decide) (by decide) (fun a w1 hA hF hl hB => ?_))
  replace hB0 := hB0.trans hB
  clear hB
  refine wp_seq (lineI0 22 (by decide) hA hF hl rfl (by decide) (by decide) (by decide) (by decide) (fun a w1 hA hF hl hB => ?_))
  replace hB0 := hB0.trans hB
  clear hB
  refine wp_seq (lineI0 23 (by decide) hA hF hl rfl (by decide) (by decide) (by decide) (by decide) (fun a w1 hA hF hl hB => ?_))
  replace hB0 := hB0.trans hB
  clear hB
  refine wp_seq (lineI1 24 (by decide) hA hF hl rfl (by decide) (by decide) (by decide) (by decide) (by decide) (fun a w1 hA hF hl hB => ?_))
  replace hB0 := hB0.trans hB
  clear hB
  refine wp_seq (lineI1 25 (by decide) hA hF hl rfl (by decide) (by decide) (by decide) (by decide) (by decide) (fun a w1 hA hF hl hB => ?_))
  replace hB0 := hB0.trans hB
  clear hB
  refine wp_seq (lineI0 26 (by decide) hA hF hl rfl (by decide) (by decide) (by decide) (by decide) (fun a w1 hA hF hl hB => ?_))
  replace hB0 := hB0.trans hB
  clear hB
  refine wp_seq (lineI0 27 (by decide) hA hF hl rfl (by decide) (by decide) (by decide) (by decide) (fun a w1 hA hF hl hB => ?_))
  replace hB0 := hB0.trans hB
  clear hB
  refine wp_seq (lineI0 28 (by decide) hA hF hl rfl (by decide) (by decide) (by decide) (by decide) (fun a w1 hA hF hl hB => ?_))
  replace hB0 := hB0.trans hB
  clear hB
  refine wp_seq (lineI0 29 (by decide) hA hF hl rfl (by decide) (by decide) (by decide) (by decide) (fun a w1 hA hF hl hB => ?_))
  replace hB0 := hB0.trans hB
  clear hB
  refine wp_seq (lineI0 30 (by decide) hA hF hl rfl (by decide) (by decide) (by decide) (by decide) (fun a w1 hA hF hl hB => ?_))
  replace hB0 := hB0.trans hB
  clear hB
  refine wp_seq (lineI0 31 (by decide) hA hF hl rfl (by decide) (by decide) (by decide) (by decide) (fun a w1 hA hF hl hB => ?_))
  replace hB0 := hB0.trans hB
  clear hB
  refine wp_seq (lineI0 32 (by decide) hA hF hl rfl (by decide) (by decide) (by decide) (by decide) (fun a w1 hA hF hl hB => ?_))
  replace hB0 := hB0.trans hB
  clear hB
  refine wp_seq (lineI0 33 (by decide) hA hF hl rfl (by decide) (by decide) (by decide) (by decide) (fun a w1 hA hF hl hB => ?_))
  replace hB0 := hB0.trans hB
  clear hB
  refine wp_seq (lineI0 34 (by decide) hA hF hl rfl (by decide) (by decide) (by decide) (by decide) (fun a w1 hA hF hl hB => ?_))
  replace hB0 := hB0.trans hB
  clear hB
  refine wp_seq (lineI0 35 (by decide) hA hF hl rfl (by decide) (by decide) (by decide) (by decide) (fun a w1 hA hF hl hB => ?_))
  replace hB0 := hB0.trans hB
  clear hB
  refine wp_seq (lineI0 36 (by decide) hA hF hl rfl (by decide) (by decide) (by decide) (by decide) (fun a w1 hA hF hl hB => ?_))
  replace hB0 := hB0.trans hB
  clear hB
  refine wp_seq (lineI0 37 (by decide) hA hF hl rfl (by decide) (by decide) (by decide) (by decide) (fun a w1 hA hF hl hB => ?_))
  replace hB0 := hB0.trans hB
  clear hB
  refine wp_seq (lineI0 38 (by decide) hA hF hl rfl (by decide) (by decide) (by decide) (by decide) (fun a w1 hA hF hl hB => ?_))
  replace hB0 := hB0.trans hB
  clear hB
  refine wp_seq (lineI0 39 (by decide) hA hF hl rfl (by decide) (by decide) (by decide) (by decide) (fun a w1 hA hF hl hB => ?_))
  replace hB0 := hB0.trans hB
  clear hB
  refine wp_seq (lineI1 40 (by decide) hA hF hl rfl (by decide) (by decide) (by decide) (by decide) (by decide) (fun a w1 hA hF hl hB => ?_))
  replace hB0 := hB0.trans hB
  clear hB
  refine wp_seq (lineI1 41 (by decide) hA hF hl rfl (by decide) (by decide) (by decide) (by decide) (by decide) (fun a w1 hA hF hl hB => ?_))
  replace hB0 := hB0.trans hB
  clear hB
  refine wp_seq (lineI0 42 (by decide) hA hF hl rfl (by decide) (by decide) (by decide) (by decide) (fun a w1 hA hF hl hB => ?_))
  replace hB0 := hB0.trans hB
  clear hB
  refine wp_seq (lineI0 43 (by decide) hA hF hl rfl (by decide) (by decide) (by decide) (by decide) (fun a w1 hA hF hl hB => ?_))
  replace hB0 := hB0.trans hB
  clear hB
  refine wp_seq (lineI0 44 (by decide) hA hF hl rfl (by decide) (by decide) (by decide) (by decide) (fun a w1 hA hF hl hB => ?_))
  replace hB0 := hB0.trans hB
  clear hB
  refine wp_seq (lineI0 45 (by decide) hA hF hl rfl (by decide) (by decide) (by decide) (by decide) (fun a w1 hA hF hl hB => ?_))
  replace hB0 := hB0.trans hB
  clear hB
  refine wp_seq (lineI0 46 (by decide) hA hF hl rfl (by decide) (by decide) (by decide) (by decide) (fun a w1 hA hF hl hB => ?_))
  replace hB0 := hB0.trans hB
  clear hB
  refine wp_seq (lineI0 47 (by decide) hA hF hl rfl (by decide) (by decide) (by decide) (by decide) (fun a w1 hA hF hl hB => ?_))
  replace hB0 := hB0.trans hB
  clear hB
  refine wp_seq (lineI0 48 (by decide) hA hF hl rfl (by decide) (by decide) (by decide) (by decide) (fun a w1 hA hF hl hB => ?_))
  replace hB0 := hB0.trans hB
  clear hB
  refine wp_seq (lineI0 49 (by decide) hA hF hl rfl (by decide) (by decide) (by decide) (by decide) (fun a w1 hA hF hl hB => ?_))
  replace hB0 := hB0.trans hB
  clear hB
  refine wp_seq (lineI0 50 (by decide) hA hF hl rfl (by decide) (by decide) (by decide) (by decide) (fun a w1 hA hF hl hB => ?_))
  replace hB0 := hB0.trans hB
  clear hB
  refine wp_seq (lineI0 51 (by decide) hA hF hl rfl (by decide) (by decide) (by decide) (by decide) (fun a w1 hA hF hl hB => ?_))
  replace hB0 := hB0.trans hB
  clear hB
  refine wp_seq (lineI0 52 (by decide) hA hF hl rfl (by decide) (by decide) (by decide) (by decide) (fun a w1 hA hF hl hB => ?_))
  replace hB0 := hB0.trans hB
  clear hB
  refine wp_seq (lineI0 53 (by decide) hA hF hl rfl (by decide) (by decide) (by decide) (by decide) (fun a w1 hA hF hl hB => ?_))
  replace hB0 := hB0.trans hB
  clear hB
  refine wp_seq (lineI0 54 (by decide) hA hF hl rfl (by decide) (by decide) (by decide) (by decide) (fun a w1 hA hF hl hB => ?_))
  replace hB0 := hB0.trans hB
  clear hB
  refine wp_seq (lineI0 55 (by decide) hA hF hl rfl (by decide) (by decide) (by decide) (by decide) (fun a w1 hA hF hl hB => ?_))
  replace hB0 := hB0.trans hB
  clear hB
  refine wp_seq (lineI1 56 (by decide) hA hF hl rfl (by decide) (by decide) (by decide) (by decide) (by decide) (fun a w1 hA hF hl hB => ?_))
  replace hB0 := hB0.trans hB
  clear hB
  refine wp_seq (lineI1 57 (by decide) hA hF hl rfl (by decide) (by decide) (by decide) (by decide) (by decide) (fun a w1 hA hF hl hB => ?_))
  replace hB0 := hB0.trans hB
  clear hB
  refine wp_seq (lineI0 58 (by decide) hA hF hl rfl (by decide) (by decide) (by decide) (by decide) (fun a w1 hA hF hl hB => ?_))
  replace hB0 := hB0.trans hB
  clear hB
  refine wp_seq (lineI0 59 (by decide) hA hF hl rfl (by decide) (by decide) (by decide) (by decide) (fun a w1 hA hF hl hB => ?_))
  replace hB0 := hB0.trans hB
  clear hB
  refine wp_seq (lineI0 60 (by decide) hA hF hl rfl (by decide) (by decide) (by decide) (by decide) (fun a w1 hA hF hl hB => ?_))
  replace hB0 := hB0.trans hB
  clear hB
  refine wp_seq (lineI0 61 (by decide) hA hF hl rfl (by decide) (by decide) (by decide) (by decide) (fun a w1 hA hF hl hB => ?_))
  replace hB0 := hB0.trans hB
  clear hB
  refine wp_seq (lineI0 62 (by decide) hA hF hl rfl (by decide) (by decide) (by decide) (by decide) (fun a w1 hA hF hl hB => ?_))
  replace hB0 := hB0.trans hB
  clear hB
  refine wp_seq (lineI0 63 (by decide) hA hF hl rfl (by decide) (by decide) (by decide) (by decide) (fun a w1 hA hF hl hB => ?_))
  replace hB0 := hB0.trans hB
  clear hB
  refine wp_seq (lineI0 64 (by decide) hA hF hl rfl (by decide) (by decide) (by decide) (by decide) (fun a w1 hA hF hl hB => ?_))
  replace hB0 := hB0.trans hB
  clear hB
  refine wp_seq (lineI0 65 (by decide) hA hF hl rfl (by decide) (by decide) (by decide) (by decide) (fun a w1 hA hF hl hB => ?_))
  replace hB0 := hB0.trans hB
  clear hB
  refine wp_seq (lineI0 66 (by decide) hA hF hl rfl (by decide) (by decide) (by decide) (by decide) (fun a w1 hA hF hl hB => ?_))
  replace hB0 := hB0.trans hB
  clear hB
  refine lineI0 67 (by decide) hA hF hl rfl (by decide) (by decide) (by decide) (by decide) (fun a w1 hA hF hl hB => ?_)
  replace hB0 := hB0.trans hB
  clear hB
  exact fam_end hA hF hB0 (Nat.le_refl _)

set_option maxRecDepth 100000 in
set_option maxHeartbeats 4000000 in
theorem FamVec_c (w : World) : Calls Tryz.prog 37 #[u8v 2#8] w (FamPost w 2#8 tabVec) := by
  refine calls_of_wp Tryz.func37 rfl ?_
  refine fam_start (k := 2#8) _ ?_ rfl ?_ ?_
  · simp
  · exact start0 _ _
  intro a hA hF
  have hB0 : Below w.heap.size w (w.alloc (.cells #[u8v 2#8, .slice none 0 0] 116)) := (Below.refl _ _).alloc (Nat.le_refl _) _
  generalize hw0 : (w.alloc (.cells #[u8v 2#8, .slice none 0 0] 116)) = w0 at *
  have hl : ([] : List PR).length ≤ 0 := Nat.le_refl _
  refine wp_block ?_
  refine fam_test (c := 0#8) rfl hA (by decide) (fun h => absurd h (by decide)) (fun _ a hA => ?_)
  refine fam_test (c := 1#8) rfl hA (by decide) (fun h => absurd h (by decide)) (fun _ a hA => ?_)
  refine fam_test (c := 2#8) rfl hA (by decide) (fun _ a hA => ?_) (fun h => absurd rfl h)
  refine wp_seq (lineI0 0 (by decide) hA hF hl rfl (by decide) (by decide) (by decide) (by decide) (fun a w1 hA hF hl hB => ?_))
  replace hB0 := hB0.trans hB
  clear hB
  refine wp_seq (lineI0 1 (by decide) hA hF hl rfl (by decide) (by decide) (by decide) (by decide) (fun a w1 hA hF hl hB => ?_))
  replace hB0 := hB0.trans hB
  clear hB
  refine wp_seq (lineI0 2 (by decide) hA hF hl rfl (by decide) (by decide) (by decide) (by decide) (fun a w1 hA hF hl hB => ?_))
  replace hB0 := hB0.trans hB
  clear hB
  refine wp_seq (lineI0 3 (by decide) hA hF hl rfl (by decide) (by decide) (by decide) (by decide) (fun a w1 hA hF hl hB => ?_))
  replace hB0 := hB0.trans hB
  clear hB
  refine wp_seq (lineI0 4 (by decide) hA hF hl rfl (by decide) (by decide) (by decide) (by decide) (fun a w1 hA hF hl hB => ?_))
  replace hB0 := hB0.trans hB
  clear hB
  refine wp_seq (lineI0 5 (by decide) hA hF hl rfl (by decide) (by decide) (by decide) (by decide) (fun a w1 hA hF hl hB => ?_))
  replace hB0 := hB0.trans hB
  clear hB
  refine wp_seq (lineI0 6 (by decide) hA hF hl rfl (by decide) (by decide) (by decide) (by decide) (fun a w1 hA hF hl hB => ?_))
  replace hB0 := hB0.trans hB
  clear hB
  refine wp_seq (lineI0 7 (by decide) hA hF hl rfl (by decide) (by decide) (by decide) (by decide) (fun a w1 hA hF hl hB => ?_))
  replace hB0 := hB0.trans hB
  clear hB
  refine wp_seq (lineI0 8 (by decide) hA hF hl rfl (by decide) (by decide) (by decide) (by decide) (fun a w1 hA hF hl hB => ?_))
  replace hB0 := hB0.trans hB
  clear hB
  refine wp_seq (lineI0 9 (by decide) hA hF hl rfl (by decide) (by decide) (by decide) (by decide) (fun a w1 hA hF hl hB => ?_))
  replace hB0 := hB0.trans hB
  clear hB
  refine wp_seq (lineI0 10 (by decide) hA hF hl rfl (by decide) (by decide) (by decide) (by decide) (fun a w1 hA hF hl hB => ?_))
  replace hB0 := hB0.trans hB
  clear hB
  refine wp_seq (lineI0 11 (by decide) hA hF hl rfl (by decide) (by decide) (by decide) (by decide) (fun a w1 hA hF hl hB => ?_))
  replace hB0 := hB0.trans hB
  clear hB
  refine wp_seq (lineI0 12 (by decide) hA hF hl rfl (by decide) (by decide) (by decide) (by decide) (fun a w1 hA hF hl hB => ?_))
  replace hB0 := hB0.trans hB
  clear hB
  refine wp_seq (lineI0 13 (by decide) hA hF hl rfl (by decide) (by decide) (by decide) (by decide) (fun a w1 hA hF hl hB => ?_))
  replace hB0 := hB0.trans hB
  clear hB
  refine wp_seq (lineI0 14 (by decide) hA hF hl rfl (by decide) (by decide) (by decide) (by decide) (fun a w1 hA hF hl hB => ?_))
  replace hB0 := hB0.trans hB
  clear hB
  refine wp_seq (lineI0 15 (by decide) hA hF hl rfl (by decide) (by decide) (by decide) (by decide) (fun a w1 hA hF hl hB => ?_))
  replace hB0 := hB0.trans hB
  clear hB
  refine wp_seq (lineI0 16 (by decide) hA hF hl rfl (by decide) (by decide) (by decide) (by decide) (fun a w1 hA hF hl hB => ?_))
  replace hB0 := hB0.trans hB
  clear hB
  refine wp_seq (lineI0 17 (by decide) hA hF hl rfl (by decide) (by decide) (by decide) (by decide) (fun a w1 hA hF hl hB => ?_))
  replace hB0 := hB0.trans hB
  clear hB
  refine wp_seq (lineI0 18 (by decide) hA hF hl rfl (by decide) (by decide) (by decide) (by decide) (fun a w1 hA hF hl hB => ?_))
  replace hB0 := hB0.trans hB
  clear hB
  refine wp_seq (lineI0 19 (by decide) hA hF hl rfl (by decide) (by decide) (by decide) (by decide) (fun a w1 hA hF hl hB => ?_))
  replace hB0 := hB0.trans hB
  clear hB
  refine wp_seq (lineI0 20 (by decide) hA hF hl rfl (by decide) (by decide) (by decide) (by decide) (fun a w1 hA hF hl hB => ?_))
  replace hB0 := hB0.trans hB
  clear hB
  refine wp_seq (lineI0 21 (by decide) hA hF hl rfl (by decide) (by decide) (by decide) (by decide) (fun a w1 hA hF hl hB => ?_))
  replace hB0 := hB0.trans hB
  clear hB
  refine wp_seq (lineI0 22 (by decide) hA hF hl rfl (by decide) (by decide) (by decide) (by decide) (fun a w1 hA hF hl hB => ?_))
  replace hB0 := hB0.trans hB
  clear hB
  refine wp_seq (lineI0 23 (by decide) hA hF hl rfl (by decide) (by decide) (by decide) (by decide) (fun a w1 hA hF hl hB => ?_))
  replace hB0 := hB0.trans hB
  clear hB
  refine wp_seq (lineI0 24 (by decide) hA hF hl rfl (by decide) (by decide) (by decide) (by decide) (fun a w1 hA hF hl hB => ?_))
  replace hB0 := hB0.trans hB
  clear hB
  refine wp_seq (lineI0 25 (by decide) hA hF hl rfl (by decide) (by decide) (by decide) (by decide) (fun a w1 hA hF hl hB => ?_))
  replace hB0 := hB0.trans hB
  clear hB
  refine wp_seq (lineI0 26 (by decide) hA hF hl rfl (by decide) (by decide) (by decide) (by decide) (fun a w1 hA hF hl hB => ?_))
  replace hB0 := hB0.trans hB
  clear hB
  refine wp_seq (lineI0 27 (by decide) hA hF hl rfl (by decide) (by decide) (by decide) (by decide) (fun a w1 hA hF hl hB => ?_))
  replace hB0 := hB0.trans hB
  clear hB
  refine wp_seq (lineI0 28 (by decide) hA hF hl rfl (by decide) (by decide) (by decide) (by decide) (fun a w1 hA hF hl hB => ?_))
  replace hB0 := hB0.trans hB
  clear hB
  refine wp_seq (lineI0 29 (by decide) hA hF hl rfl (by decide) (by decide) (by decide) (by decide) (fun a w1 hA hF hl hB => ?_))
  replace hB0 := hB0.trans hB
  clear hB
  refine wp_seq (lineI0 30 (by decide) hA hF hl rfl (by decide) (by decide) (by decide) (by decide) (fun a w1 hA hF hl hB => ?_))
  replace hB0 := hB0.trans hB
  clear hB
  refine wp_seq (lineI0 31 (by decide) hA hF hl rfl (by decide) (by decide) (by decide) (by decide) (fun a w1 hA hF hl hB => ?_))
  replace hB0 := hB0.trans hB
  clear hB
  refine wp_seq (lineI0 32 (by decide) hA hF hl rfl (by decide) (by decide) (by decide) (by decide) (fun a w1 hA hF hl hB => ?_))
  replace hB0 := hB0.trans hB
  clear hB
  refine wp_seq (lineI0 33 (by decide) hA hF hl rfl (by decide) (by decide) (by decide) (by decide) (fun a w1 hA hF hl hB => ?_))
  replace hB0 := hB0.trans hB
  clear hB
  refine wp_seq (lineI0 34 (by decide) hA hF hl rfl (by decide) (by decide) (by decide) (by decide) (fun a w1 hA hF hl hB => ?_))
  replace hB0 := hB0.trans hB
  clear hB
  refine wp_seq (lineI0 35 (by decide) hA hF hl rfl (by decide) (by decide) (by decide) (by decide) (fun a w1 hA hF hl hB => ?_))
  replace hB0 := hB0.trans hB
  clear hB
  refine wp_seq (lineI0 36 (by decide) hA hF hl rfl (by decide) (by decide) (by decide) (by decide) (fun a w1 hA hF hl hB => ?_))
  replace hB0 := hB0.trans hB
  clear hB
  refine wp_seq (lineI0 37 (by decide) hA hF hl rfl (by decide) (by decide) (by decide) (by decide) (fun a w1 hA hF hl hB => ?_))
  replace hB0 := hB0.trans hB
  clear hB
  refine wp_seq (lineI0 38 (by decide) hA hF hl rfl (by decide) (by decide) (by decide) (by decide) (fun a w1 hA hF hl hB => ?_))
  replace hB0 := hB0.trans hB
  clear hB
  refine wp_seq (lineI0 39 (by decide) hA hF hl rfl (by decide) (by decide) (by decide) (by decide) (fun a w1 hA hF hl hB => ?_))
  replace hB0 := hB0.trans hB
  clear hB
  refine wp_seq (lineI0 40 (by decide) hA hF hl rfl (by decide) (by decide) (by decide) (by decide) (fun a w1 hA hF hl hB => ?_))
  replace hB0 := hB0.trans hB
  clear hB
  refine wp_seq (lineI0 41 (by decide) hA hF hl rfl (by decide) (by decide) (by decide) (by decide) (fun a w1 hA hF hl hB => ?_))
  replace hB0 := hB0.trans hB
  clear hB
  refine wp_seq (lineI0 42 (by decide) hA hF hl rfl (by decide) (by decide) (by decide) (by decide) (fun a w1 hA hF hl hB => ?_))
  replace hB0 := hB0.trans hB
  clear hB
  refine wp_seq (lineI0 43 (by decide) hA hF hl rfl (by decide) (by decide) (by decide) (by decide) (fun a w1 hA hF hl hB => ?_))
  replace hB0 := hB0.trans hB
  clear hB
  refine wp_seq (lineI0 44 (by decide) hA hF hl rfl (by decide) (by decide) (by decide) (by decide) (fun a w1 hA hF hl hB => ?_))
  replace hB0 := hB0.trans hB
  clear hB
  refine wp_seq (lineI0 45 (by decide) hA hF hl rfl (by decide) (by decide) (by decide) (by decide) (fun a w1 hA hF hl hB => ?_))
  replace hB0 := hB0.trans hB
  clear hB
  refine wp_seq (lineI0 46 (by decide) hA hF hl rfl (by decide) (by decide) (by decide) (by decide) (fun a w1 hA hF hl hB => ?_))
  replace hB0 := hB0.trans hB
  clear hB
  refine wp_seq (lineI0 47 (by decide) hA hF hl rfl (by decide) (by decide) (by decide) (by decide) (fun a w1 hA hF hl hB => ?_))
  replace hB0 := hB0.trans hB
  clear hB
  refine wp_seq (lineI0 48 (by decide) hA hF hl rfl (by decide) (by decide) (by decide) (by decide) (fun a w1 hA hF hl hB => ?_))
  replace hB0 := hB0.trans hB
  clear hB
  refine wp_seq (lineI0 49 (by decide) hA hF hl rfl (by decide) (by decide) (by decide) (by decide) (fun a w1 hA hF hl hB => ?_))
  replace hB0 := hB0.trans hB
  clear hB
  refine wp_seq (lineI0 50 (by decide) hA hF hl rfl (by decide) (by decide) (by decide) (by decide) (fun a w1 hA hF hl hB => ?_))
  replace hB0 := hB0.trans hB
  clear hB
  refine wp_seq (lineI0 51 (by decide) hA hF hl rfl (by decide) (by decide) (by decide) (by decide) (fun a w1 hA hF hl hB => ?_))
  replace hB0 := hB0.trans hB
  clear hB
  refine wp_seq (lineI0 52 (by decide) hA hF hl rfl (by decide) (by decide) (by decide) (by decide) (fun a w1 hA hF hl hB => ?_))
  replace hB0 := hB0.trans hB
  clear hB
  refine wp_seq (lineI0 53 (by decide) hA hF hl rfl (by decide) (by decide) (by decide) (by decide) (fun a w1 hA hF hl hB => ?_))
  replace hB0 := hB0.trans hB
  clear hB
  refine wp_seq (lineI0 54 (by decide) hA hF hl rfl (by decide) (by decide) (by decide) (by decide) (fun a w1 hA hF hl hB => ?_))
  replace hB0 := hB0.trans hB
  clear hB
  refine wp_seq (lineI0 55 (by decide) hA hF hl rfl (by decide) (by decide) (by decide) (by decide) (fun a w1 hA hF hl hB => ?_))
  replace hB0 := hB0.trans hB
  clear hB
  refine wp_seq (lineI0 56 (by decide) hA hF hl rfl (by decide) (by decide) (by decide) (by decide) (fun a w1 hA hF hl hB => ?_))
  replace hB0 := hB0.trans hB
  clear hB
  refine wp_seq (lineI0 57 (by decide) hA hF hl rfl (by decide) (by decide) (by decide) (by decide) (fun a w1 hA hF hl hB => ?_))
  replace hB0 := hB0.trans hB
  clear hB
  refine wp_seq (lineI0 58 (by decide) hA hF hl rfl (by decide) (by decide) (by decide) (by decide) (fun a w1 hA hF hl hB => ?_))
  replace hB0 := hB0.trans hB
  clear hB
  refine wp_seq (lineI0 59 (by decide) hA hF hl rfl (by decide) (by decide) (by decide) (by decide) (fun a w1 hA hF hl hB => ?_))
  replace hB0 := hB0.trans hB
  clear hB
  refine wp_seq (lineI0 60 (by decide) hA hF hl rfl (by decide) (by decide) (by decide) (by decide) (fun a w1 hA hF hl hB => ?_))
  replace hB0 := hB0.trans hB
  clear hB
  refine wp_seq (lineI0 61 (by decide) hA hF hl rfl (by decide) (by decide) (by decide) (by decide) (fun a w1 hA hF hl hB => ?_))
  replace hB0 := hB0.trans hB
  clear hB
  refine wp_seq (lineI0 62 (by decide) hA hF hl rfl (by decide) (by decide) (by decide) (by decide) (fun a w1 hA hF hl hB => ?_))
  replace hB0 := hB0.trans hB
  clear hB
  refine wp_seq (lineI0 63 (by decide) hA hF hl rfl (by decide) (by decide) (by decide) (by decide) (fun a w1 hA hF hl hB => ?_))
  replace hB0 := hB0.trans hB
  clear hB
  refine wp_seq (lineI0 64 (by decide) hA hF hl rfl (by decide) (by decide) (by decide) (by decide) (fun a w1 hA hF hl hB => ?_))
  replace hB0 := hB0.trans hB
  clear hB
  refine wp_seq (lineI0 65 (by decide) hA hF hl rfl (by decide) (by decide) (by decide) (by decide) (fun a w1 hA hF hl hB => ?_))
  replace hB0 := hB0.trans hB
  clear hB
  refine wp_seq (lineI0 66 (by decide) hA hF hl rfl (by decide) (by decide) (by decide) (by decide) (fun a w1 hA hF hl hB => ?_))
  replace hB0 := hB0.trans hB
  clear hB
  refine wp_seq (lineI0 67 (by decide) hA hF hl rfl (by decide) (by decide) (by decide) (by decide) (fun a w1 hA hF hl hB => ?_))
  replace hB0 := hB0.trans hB
  clear hB
  refine wp_seq (lineI0 68 (by decide) hA hF hl rfl (by decide) (by decide) (by decide) (by decide) (fun a w1 hA hF hl hB => ?_))
  replace hB0 := hB0.trans hB
  clear hB
  refine wp_seq (lineI0 69 (by decide) hA hF hl rfl (by decide) (by decide) (by decide) (by decide) (fun a w1 hA hF hl hB => ?_))
  replace hB0 := hB0.trans hB
  clear hB
  refine wp_seq (lineI0 70 (by decide) hA hF hl rfl (by decide) (by decide) (by decide) (by decide) (fun a w1 hA hF hl hB => ?_))
  replace hB0 := hB0.trans hB
  clear hB
  refine wp_seq (lineI0 71 (by decide) hA hF hl rfl (by decide) (by decide) (by decide) (by decide) (fun a w1 hA hF hl hB => ?_))
  replace hB0 := hB0.trans hB
  clear hB
  refine wp_seq (lineI0 72 (by decide) hA hF hl rfl (by decide) (by decide) (by decide) (by decide) (fun a w1 hA hF hl hB => ?_))
  replace hB0 := hB0.trans hB
  clear hB
  refine wp_seq (lineI0 73 (by decide) hA hF hl rfl (by decide) (by decide) (by decide) (by decide) (fun a w1 hA hF hl hB => ?_))
  replace hB0 := hB0.trans hB
  clear hB
  refine wp_seq (lineI0 74 (by decide) hA hF hl rfl (by decide) (by decide) (by decide) (by decide) (fun a w1 hA hF hl hB => ?_))
  replace hB0 := hB0.trans hB
  clear hB
  refine wp_seq (lineI0 75 (by decide) hA hF hl rfl (by decide) (by decide) (by decide) (by decide) (fun a w1 hA hF hl hB => ?_))
  replace hB0 := hB0.trans hB
  clear hB
  refine wp_seq (lineI0 76 (by decide) hA hF hl rfl (by decide) (by decide) (by decide) (by decide) (fun a w1 hA hF hl hB => ?_))
  replace hB0 := hB0.trans hB
  clear hB
  refine wp_seq (lineI0 77 (by decide) hA hF hl rfl (by decide) (by decide) (by decide) (by decide) (fun a w1 hA hF hl hB => ?_))
  replace hB0 := hB0.trans hB
  clear hB
  refine wp_seq (lineI0 78 (by decide) hA hF hl rfl (by decide) (by decide) (by decide) (by decide) (fun a w1 hA hF hl hB => ?_))
  replace hB0 := hB0.trans hB
  clear hB
  refine wp_seq (lineI0 79 (by decide) hA hF hl rfl (by decide) (by decide) (by decide) (by decide) (fun a w1 hA hF hl hB => ?_))
  replace hB0 := hB0.trans hB
  clear hB
  refine wp_seq (lineI0 80 (by decide) hA hF hl rfl (by decide) (by decide) (by decide) (by decide) (fun a w1 hA hF hl hB => ?_))
  replace hB0 := hB0.trans hB
  clear hB
  refine wp_seq (lineI0 81 (by decide) hA hF hl rfl (by decide) (by decide) (by decide) (by decide) (fun a w1 hA hF hl hB => ?_))
  replace hB0 := hB0.trans hB
  clear hB
  refine wp_seq (lineI0 82 (by decide) hA hF hl rfl (by decide) (by decide) (by decide) (by decide) (fun a w1 hA hF hl hB => ?_))
  replace hB0 := hB0.trans hB
  clear hB
  refine wp_seq (lineI0 83 (by decide) hA hF hl rfl (by decide) (by decide) (by decide) (by decide) (fun a w1 hA hF hl hB => ?_))
  replace hB0 := hB0.trans hB
  clear hB
  refine wp_seq (lineI0 84 (by decide) hA hF hl rfl (by decide) (by decide) (by decide) (by decide) (fun a w1 hA hF hl hB => ?_))
  replace hB0 := hB0.trans hB
  clear hB
  refine wp_seq (lineI0 85 (by decide) hA hF hl rfl (by decide) (by decide) (by decide) (by decide) (fun a w1 hA hF hl hB => ?_))
  replace hB0 := hB0.trans hB
  clear hB
  refine wp_seq (lineI0 86 (by decide) hA hF hl rfl (by decide) (by decide) (by decide) (by decide) (fun a w1 hA hF hl hB => ?_))
  replace hB0 := hB0.trans hB
  clear hB
  refine wp_seq (lineI0 87 (by decide) hA hF hl rfl (by decide) (by decide) (by decide) (by decide) (fun a w1 hA hF hl hB => ?_))
  replace hB0 := hB0.trans hB
  clear hB
  refine wp_seq (lineI0 88 (by decide) hA hF hl rfl (by decide) (by decide) (by decide) (by decide) (fun a w1 hA hF hl hB => ?_))
  replace hB0 := hB0.trans hB
  clear hB
  refine wp_seq (lineI0 89 (by decide) hA hF hl rfl (by decide) (by decide) (by decide) (by decide) (fun a w1 hA hF hl hB => ?_))
  replace hB0 := hB0.trans hB
  clear hB
  refine wp_seq (lineI0 90 (by decide) hA hF hl rfl (by decide) (by decide) (by decide) (by decide) (fun a w1 hA hF hl hB => ?_))
  replace hB0 := hB0.trans hB
  clear hB
  refine wp_seq (lineI0 91 (by decide) hA hF hl rfl (by decide) (by decide) (by decide) (by decide) (fun a w1 hA hF hl hB => ?_))
  replace hB0 := hB0.trans hB
  clear hB
  refine wp_seq (lineI0 92 (by decide) hA hF hl rfl (by decide) (by decide) (by decide) (by decide) (fun a w1 hA hF hl hB => ?_))
  replace hB0 := hB0.trans hB
  clear hB
  refine wp_seq (lineI0 93 (by decide) hA hF hl rfl (by decide) (by decide) (by decide) (by decide) (fun a w1 hA hF hl hB => ?_))
  replace hB0 := hB0.trans hB
  clear hB
  refine wp_seq (lineI0 94 (by decide) hA hF hl rfl (by decide) (by decide) (by decide) (by decide) (fun a w1 hA hF hl hB => ?_))
  replace hB0 := hB0.trans hB
  clear hB
  refine lineI0 95 (by decide) hA hF hl rfl (by decide) (by decide) (by decide) (by decide) (fun a w1 hA hF hl hB => ?_)
  replace hB0 := hB0.trans hB
  clear hB
  exact fam_end hA hF hB0 (Nat.le_refl _)

set_option maxRecDepth 100000 in
set_option maxHeartbeats 1600000 in
theorem define_c (w : World) (fb : Nat) (l : List PR) (s i : BitVec 16) (nm : ByteArray) (hF : FamIs w fb 0#8 l) (hl : l.length ≤ 200) :
    Calls Tryz.prog 44 #[.pointer (some ⟨fb, 0, none⟩), u16v s, u16v i, .string nm, .slice none 0 0] w fun e w' => (∃ v, e = .returned v) ∧ FamIs w' fb 0#8 (l ++ [⟨s, i, 0#8, nm⟩]) ∧ Below fb w w' := by
  have hlt := hF.lt
  go_enter Tryz.func44, Tryz.ntmps44
  go_wp2_with (go_at_call 47; refine (newregister_c _ _ _ _ _).mono ?_; rintro e w1 ⟨rfl, hf1⟩)
  have hF1 : FamIs w1 fb 0#8 l := hF.later (hf1.below.mono (Nat.le_of_lt hlt)) (fun i hi h => hf1.block i h (fun h => h))
  have hlt1 := hF1.lt
  have hB1 : Below fb w w1 := hf1.below.mono (Nat.le_of_lt hlt)
  have hB2 : Below fb w1 (w1.alloc (.cells #[.pointer (some ⟨fb, 0, none⟩), u16v i, .string nm, u8v 0#8, u16v s] 124)) := (Below.refl fb w1).alloc (Nat.le_of_lt hlt1) _
  have hF2 : FamIs (w1.alloc (.cells #[.pointer (some ⟨fb, 0, none⟩), u16v i, .string nm, u8v 0#8, u16v s] 124)) fb 0#8 l := hF1.later hB2 (fun j hi h => Below.heap_alloc _ _ _ h)
  have hadd := famadd_c _ fb 0#8 l ⟨s, i, 0#8, nm⟩ hF2 hl
  have ep : pregV 0#8 fb ⟨s, i, 0#8, nm⟩ = .iface 124 (.agg #[.pointer (some ⟨fb, 0, none⟩), u16v i, .string nm, u8v 0#8, u16v s]) := rfl
  rw [ep] at hadd
  have Hadd := Lib.hid hadd
  clear hadd ep
  have hrow : ¬ (fun j => j = fb ∨ FamRow (w1.alloc (.cells #[.pointer (some ⟨fb, 0, none⟩), u16v i, .string nm, u8v 0#8, u16v s] 124)) fb j) w1.heap.size := by
    rintro (h | ⟨a, n, c, h3, h4⟩)
    · omega
    · have e1 : w1.cell? ⟨fb, 1, none⟩ = some (.slice a n c) := (World.cell?_of_block (a := ⟨fb, 1, none⟩) (Below.heap_alloc w1 _ fb hlt1)).symm.trans h3
      have := hF1.row ⟨a, n, c, e1, h4⟩
      omega
  go_wp2_with (go_at_call 45; refine Hadd.out.mono ?_; rintro e w2 ⟨rfl, hF3, hB3, hf3⟩; have hbx : w2.heap[w1.heap.size]? = some (.cells #[.pointer (some ⟨fb, 0, none⟩), u16v i, .string nm, u8v 0#8, u16v s] 124) := ((hf3.block _ (by simp) hrow).trans (heap_alloc_new w1 _)); have d0 : w2.cell? ⟨w1.heap.size, 0, none⟩ = some (.pointer (some ⟨fb, 0, none⟩)) := (by simp [World.cell?, hbx]); have d1 : w2.cell? ⟨w1.heap.size, 1, none⟩ = some (u16v i) := (by simp [World.cell?, hbx]); have d2 : w2.cell? ⟨w1.heap.size, 2, none⟩ = some (.string nm) := (by simp [World.cell?, hbx]); have d3 : w2.cell? ⟨w1.heap.size, 3, none⟩ = some (u8v 0#8) := (by simp [World.cell?, hbx]); have d4 : w2.cell? ⟨w1.heap.size, 4, none⟩ = some (u16v s) := (by simp [World.cell?, hbx]))
  go_ret
  exact ⟨⟨_, rfl⟩, hF3, (hB1.trans hB2).trans hB3⟩

/-- one row of the table of the pseudo-registers -/
theorem lineP {a : Act} {w : World} {Q : Exit → Act → World → Prop} {fb : Nat} {l : List PR} {id t1 t2 y1 y2 : Nat} {p1 p2 : String} {e1 e2 : Array Edge}
    {b2 : Array TypeId} {nm : ByteArray} (n : Nat) (hA : FA a 0#8 fb) (hF : FamIs w fb 0#8 l) (hl : l.length ≤ n) (hn : n ≤ 200)
    (ht : 8 ≤ t1 ∧ t1 < t2 ∧ t2 < 1066)
    (hK : ∀ a' w', FA a' 0#8 fb → FamIs w' fb 0#8 (l ++ [⟨BitVec.ofInt 16 0, BitVec.ofInt 16 0, 0#8, nm⟩]) → (l ++ [(⟨BitVec.ofInt 16 0, BitVec.ofInt 16 0, 0#8, nm⟩ : PR)]).length ≤ n + 1 → Below fb w w' → Q .normal a' w') :
    (Code.region id [
      (⟨some t1, .move (.tmp 3), y1, p1, e1, none⟩ : Oper),
      ⟨some t2, .call ⟨.value (.func 44), #[.tmp t1, .const (.int .u16 0), .const (.int .u16 0), .const (.string nm), .const (.slice none 0 0)], b2⟩, y2, p2, e2, none⟩].toArray false).wp Tryz.prog Q a w := by
  have hsz := hA.size
  refine wp_region_lit ?_
  refine wl_val (.pointer (some ⟨fb, 0, none⟩)) rfl (by simp only [execOp, Sem.run_pure, pure, Sem.run]; rw [hA.fam]) ?_
  have hA1 := hA.put (t := t1) (by omega) (.pointer (some ⟨fb, 0, none⟩))
  have g1 : (a.put (some t1) (.pointer (some ⟨fb, 0, none⟩))).eval (.tmp t1) = .pointer (some ⟨fb, 0, none⟩) := put_same (by omega)
  show wpList _ _ _ _ (a.put (some t1) (.pointer (some ⟨fb, 0, none⟩))) w
  generalize (a.put (some t1) (.pointer (some ⟨fb, 0, none⟩))) = a1 at *
  refine wl_call (ars := #[.pointer (some ⟨fb, 0, none⟩), u16v (BitVec.ofInt 16 0), u16v (BitVec.ofInt 16 0), .string nm, .slice none 0 0]) rfl rfl (enters Tryz.func44 (by kernel_rfl) rfl) (by simp only [List.map, g1]; rfl) (define_c w fb l (BitVec.ofInt 16 0) (BitVec.ofInt 16 0) nm hF (by omega)) ?_
  rintro e w3 ⟨⟨v, rfl⟩, hF3, hB3⟩
  refine ⟨_, rfl, wpList_nil (hK _ _ (hA1.put (t := t2) (by omega) _) hF3 (by rw [List.length_append]; simp; omega) hB3)⟩

set_option maxRecDepth 100000 in
set_option maxHeartbeats 4000000 in
theorem FamPs_c (w : World) : Calls Tryz.prog 37 #[u8v 0#8] w (FamPost w 0#8 tabPs) := by
  refine calls_of_wp Tryz.func37 rfl ?_
  refine fam_start (k := 0#8) _ ?_ rfl ?_ ?_
  · simp
  · exact start0 _ _
  intro a hA hF
  have hB0 : Below w.heap.size w (w.alloc (.cells #[u8v 0#8, .slice none 0 0] 116)) := (Below.refl _ _).alloc (Nat.le_refl _) _
  generalize hw0 : (w.alloc (.cells #[u8v 0#8, .slice none 0 0] 116)) = w0 at *
  have hl : ([] : List PR).length ≤ 0 := Nat.le_refl _
  refine wp_block ?_
  refine fam_test (c := 0#8) rfl hA (by decide) (fun _ a hA => ?_) (fun h => absurd rfl h)
  refine wp_seq (lineP 0 hA hF hl (by decide) (by decide) (fun a w1 hA hF hl hB => ?_))
  replace hB0 := hB0.trans hB
  clear hB
  refine wp_seq (lineP 1 hA hF hl (by decide) (by decide) (fun a w1 hA hF hl hB => ?_))
  replace hB0 := hB0.trans hB
  clear hB
  refine wp_seq (lineP 2 hA hF hl (by decide) (by decide) (fun a w1 hA hF hl hB => ?_))
  replace hB0 := hB0.trans hB
  clear hB
  refine lineP 3 hA hF hl (by decide) (by decide) (fun a w1 hA hF hl hB => ?_)
  replace hB0 := hB0.trans hB
  clear hB
  exact fam_end hA hF hB0 (Nat.le_refl _)

set_option maxRecDepth 100000 in
set_option maxHeartbeats 4000000 in
theorem FamNo_c (w : World) (k : BitVec 8) (hk : 4 ≤ k.toNat) : Calls Tryz.prog 37 #[u8v k] w fun e w' => e = .returned (.pointer none) ∧ Fr Non w w' := by
  refine calls_of_wp Tryz.func37 rfl ?_
  refine fam_start (k := k) _ ?_ rfl ?_ ?_
  · simp
  · exact start0 _ _
  intro a hA hF
  have hne : ∀ c : BitVec 8, c.toNat < 4 → k ≠ c := fun c hc h => by subst h; omega
  refine wp_block ?_
  refine fam_test (c := 0#8) rfl hA (by decide) (fun h => absurd h (hne _ (by decide))) (fun _ a hA => ?_)
  refine fam_test (c := 1#8) rfl hA (by decide) (fun h => absurd h (hne _ (by decide))) (fun _ a hA => ?_)
  refine fam_test (c := 2#8) rfl hA (by decide) (fun h => absurd h (hne _ (by decide))) (fun _ a hA => ?_)
  refine fam_test (c := 3#8) rfl hA (by decide) (fun h => absurd h (hne _ (by decide))) (fun _ a hA => ?_)
  refine wp_seq (wp_region_lit (wl_val (.pointer none) rfl rfl (wpList_nil ?_)))
  have g2 : (a.put (some 2) (.pointer none)).tmps.getD 2 undef = .pointer none := put_same (a := a) (by rw [hA.size]; omega)
  refine wp_ret ?_
  show bodyPost Tryz.prog Tryz.f37 (fun e w' => e = Ending.returned (Value.pointer none) ∧ Fr Non w w') .ret (a.put (some 2) (.pointer none)) _
  exact bodyPost_ret (results_tmp rfl _ _ _) ((put_defers _ _).trans hA.defers) ⟨congrArg Ending.returned g2, Fr.of_below ((Below.refl _ _).alloc (Nat.le_refl _) _)⟩

end Go.Proofs.YtglamkopjjimjaaGreat
