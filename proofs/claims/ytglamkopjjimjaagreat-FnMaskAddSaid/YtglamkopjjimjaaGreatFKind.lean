/- FamilyOfKind: its rows, one after the other. -/
import Derived.Test.YtglamkopjjimjaaGreatFFam
set_option linter.unusedVariables false
set_option linter.unusedSimpArgs false
namespace Go.Proofs.YtglamkopjjimjaaGreat
open Go.RowKit

/-- a number that stands in the text, as a number of 16 bits -/
def bv16 (n : Int) : BitVec 16 := BitVec.ofInt 16 n
theorem u16_lit (n : Nat) (h : n < 65536) : (Value.int .u16 (n : Int)) = u16v (BitVec.ofNat 16 n) := by
  unfold u16v; rw [BitVec.toNat_ofNat, Nat.mod_eq_of_lt (by omega)]
theorem u8_lit (n : Nat) (h : n < 256) : (Value.int .u8 (n : Int)) = u8v (BitVec.ofNat 8 n) := by
  unfold u8v; rw [BitVec.toNat_ofNat, Nat.mod_eq_of_lt (by omega)]

structure FA (a : Act) (k : BitVec 8) (fb : Nat) : Prop where
  size : a.tmps.size = 1066
  defers : a.defers = []
  fam : a.eval (.tmp 3) = .pointer (some ⟨fb, 0, none⟩)
  kind : a.eval (.tmp 7) = u8v k

theorem FA.put {a : Act} {k : BitVec 8} {fb : Nat} (h : FA a k fb) {t : Nat} (ht : 8 ≤ t) (v : Value) : FA (a.put (some t) v) k fb where
  size := by rw [put_size]; exact h.size
  defers := by rw [put_defers]; exact h.defers
  fam := by rw [put_ne (by omega)]; exact h.fam
  kind := by rw [put_ne (by omega)]; exact h.kind

/-- which wrapper a kind's registers get -/
def wrapFn (k : BitVec 8) : Nat := if k = 1#8 then 46 else if k = 2#8 then 48 else 49

theorem wrap_c (w : World) (k : BitVec 8) (hk : k = 1#8 ∨ k = 2#8 ∨ k = 3#8) (f : Addr) (i : BitVec 16) (nm : ByteArray) (info : BitVec 8) (s : BitVec 16) :
    Calls Tryz.prog (wrapFn k) #[.iface 124 (.agg #[.pointer (some f), u16v i, .string nm, u8v info, u16v s])] w fun e w' => e = .returned (regPhys k f i nm info s) ∧ w = w' := by
  rcases hk with rfl | rfl | rfl
  · exact newgpp_c w _ _
  · exact newvecp_c w _ _
  · exact newopmaskp_c w _ _
theorem wrap_enters (k : BitVec 8) (ars : Array Value) (w : World) : (callFunc (wrapFn k) ars).run Tryz.prog w = .ok (.enter (wrapFn k) ars) w := by
  unfold wrapFn
  split
  · exact enters Tryz.func46 (by kernel_rfl) rfl ars w
  · split
    · exact enters Tryz.func48 (by kernel_rfl) rfl ars w
    · exact enters Tryz.func49 (by kernel_rfl) rfl ars w

set_option maxHeartbeats 800000 in
/-- one row without flags -/
theorem line0 {a : Act} {w : World} {Q : Exit → Act → World → Prop} {k : BitVec 8} {fb : Nat} {l : List PR} {id t1 t2 t3 t4 t5 t6 y1 y2 y3 y4 y5 y6 : Nat} {p1 p2 p3 p4 p5 p6 : String} {e1 e2 e3 e4 e5 e6 : Array Edge}
    {b3 b5 b6 : Array TypeId} {s i : Nat} {nm : ByteArray} (hk : k = 1#8 ∨ k = 2#8 ∨ k = 3#8) (hs : s < 65536) (hi : i < 65536)
    (ht : 8 ≤ t1 ∧ t1 < t2 ∧ t2 < t3 ∧ t3 < t4 ∧ t4 < t5 ∧ t5 < t6 ∧ t6 < 1066) (hA : FA a k fb) (hF : FamIs w fb k l) (hl : l.length ≤ 200)
    (hK : ∀ a' w', FA a' k fb → FamIs w' fb k (l ++ [⟨BitVec.ofNat 16 s, BitVec.ofNat 16 i, 0#8, nm⟩]) → Below fb w w' → Q .normal a' w') :
    (Code.region id [
      (⟨some t1, .move (.tmp 3), y1, p1, e1, none⟩ : Oper), ⟨some t2, .move (.tmp 3), y2, p2, e2, none⟩,
      ⟨some t3, .call ⟨.value (.func 47), #[.tmp t2, .const (.int .u16 (s : Int)), .const (.int .u16 (i : Int)), .const (.string nm), .const (.slice none 0 0)], b3⟩, y3, p3, e3, none⟩,
      ⟨some t4, .makeInterface 124 (.tmp t3), y4, p4, e4, none⟩,
      ⟨some t5, .call ⟨.value (.func (wrapFn k)), #[.tmp t4], b5⟩, y5, p5, e5, none⟩,
      ⟨some t6, .call ⟨.value (.func 45), #[.tmp t1, .tmp t5], b6⟩, y6, p6, e6, none⟩].toArray false).wp Tryz.prog Q a w := by
  have hsz := hA.size
  refine wp_region_lit ?_
  refine wl_val (.pointer (some ⟨fb, 0, none⟩)) rfl (by simp only [execOp, Sem.run_pure, pure, Sem.run]; rw [hA.fam]) ?_
  have hA1 := hA.put (t := t1) (by omega) (.pointer (some ⟨fb, 0, none⟩))
  have g1 : (a.put (some t1) (.pointer (some ⟨fb, 0, none⟩))).eval (.tmp t1) = .pointer (some ⟨fb, 0, none⟩) := put_same (by omega)
  show wpList _ _ _ _ (a.put (some t1) (.pointer (some ⟨fb, 0, none⟩))) w
  generalize (a.put (some t1) (.pointer (some ⟨fb, 0, none⟩))) = a1 at *
  refine wl_val (.pointer (some ⟨fb, 0, none⟩)) rfl (by simp only [execOp, Sem.run_pure, pure, Sem.run]; rw [hA1.fam]) ?_
  have hA2 := hA1.put (t := t2) (by omega) (.pointer (some ⟨fb, 0, none⟩))
  have g2 : (a1.put (some t2) (.pointer (some ⟨fb, 0, none⟩))).eval (.tmp t2) = .pointer (some ⟨fb, 0, none⟩) := put_same (by rw [hA1.size]; omega)
  have g1' : (a1.put (some t2) (.pointer (some ⟨fb, 0, none⟩))).eval (.tmp t1) = .pointer (some ⟨fb, 0, none⟩) := by rw [put_ne (by omega)]; exact g1
  show wpList _ _ _ _ (a1.put (some t2) (.pointer (some ⟨fb, 0, none⟩))) w
  generalize (a1.put (some t2) (.pointer (some ⟨fb, 0, none⟩))) = a2 at *
  refine wl_call (ars := #[.pointer (some ⟨fb, 0, none⟩), u16v (BitVec.ofNat 16 s), u16v (BitVec.ofNat 16 i), .string nm, .slice none 0 0]) rfl rfl (enters Tryz.func47 (by kernel_rfl) rfl) (by rw [← u16_lit s hs, ← u16_lit i hi]; simp only [List.map, g2]; rfl) (newregister_c w ⟨fb, 0, none⟩ (BitVec.ofNat 16 s) (BitVec.ofNat 16 i) nm) ?_
  rintro e w3 ⟨rfl, hf3⟩
  refine ⟨_, rfl, ?_⟩
  have hA3 := hA2.put (t := t3) (by omega) (.agg #[.pointer (some ⟨fb, 0, none⟩), u16v (BitVec.ofNat 16 i), .string nm, u8v (0#8), u16v (BitVec.ofNat 16 s)])
  have g3 : (a2.put (some t3) (.agg #[.pointer (some ⟨fb, 0, none⟩), u16v (BitVec.ofNat 16 i), .string nm, u8v (0#8), u16v (BitVec.ofNat 16 s)])).eval (.tmp t3) = _ := put_same (by rw [hA2.size]; omega)
  have g13 : (a2.put (some t3) (.agg #[.pointer (some ⟨fb, 0, none⟩), u16v (BitVec.ofNat 16 i), .string nm, u8v (0#8), u16v (BitVec.ofNat 16 s)])).eval (.tmp t1) = .pointer (some ⟨fb, 0, none⟩) := by rw [put_ne (by omega)]; exact g1'
  show wpList _ _ _ _ (a2.put (some t3) (.agg #[.pointer (some ⟨fb, 0, none⟩), u16v (BitVec.ofNat 16 i), .string nm, u8v (0#8), u16v (BitVec.ofNat 16 s)])) w3
  generalize (a2.put (some t3) (.agg #[.pointer (some ⟨fb, 0, none⟩), u16v (BitVec.ofNat 16 i), .string nm, u8v (0#8), u16v (BitVec.ofNat 16 s)])) = a3 at *
  refine wl_val (.iface 124 (.agg #[.pointer (some ⟨fb, 0, none⟩), u16v (BitVec.ofNat 16 i), .string nm, u8v (0#8), u16v (BitVec.ofNat 16 s)])) rfl (by
    simp only [execOp, Sem.run_bind, g3]
    rw [run_makeInterface w3 124 _ (by kernel_rfl)]; rfl) ?_
  have hA4 := hA3.put (t := t4) (by omega) (.iface 124 (.agg #[.pointer (some ⟨fb, 0, none⟩), u16v (BitVec.ofNat 16 i), .string nm, u8v (0#8), u16v (BitVec.ofNat 16 s)]))
  have g4 : (a3.put (some t4) (.iface 124 (.agg #[.pointer (some ⟨fb, 0, none⟩), u16v (BitVec.ofNat 16 i), .string nm, u8v (0#8), u16v (BitVec.ofNat 16 s)]))).eval (.tmp t4) = _ := put_same (by rw [hA3.size]; omega)
  have g14 : (a3.put (some t4) (.iface 124 (.agg #[.pointer (some ⟨fb, 0, none⟩), u16v (BitVec.ofNat 16 i), .string nm, u8v (0#8), u16v (BitVec.ofNat 16 s)]))).eval (.tmp t1) = .pointer (some ⟨fb, 0, none⟩) := by rw [put_ne (by omega)]; exact g13
  show wpList _ _ _ _ (a3.put (some t4) (.iface 124 (.agg #[.pointer (some ⟨fb, 0, none⟩), u16v (BitVec.ofNat 16 i), .string nm, u8v (0#8), u16v (BitVec.ofNat 16 s)]))) w3
  generalize (a3.put (some t4) (.iface 124 (.agg #[.pointer (some ⟨fb, 0, none⟩), u16v (BitVec.ofNat 16 i), .string nm, u8v (0#8), u16v (BitVec.ofNat 16 s)]))) = a4 at *
  refine wl_call (ars := #[.iface 124 (.agg #[.pointer (some ⟨fb, 0, none⟩), u16v (BitVec.ofNat 16 i), .string nm, u8v (0#8), u16v (BitVec.ofNat 16 s)])]) rfl rfl (wrap_enters k) (by simp only [List.map, g4]) (wrap_c w3 k hk ⟨fb, 0, none⟩ (BitVec.ofNat 16 i) nm (0#8) (BitVec.ofNat 16 s)) ?_
  rintro e w4 ⟨rfl, rfl⟩
  refine ⟨_, rfl, ?_⟩
  have hA5 := hA4.put (t := t5) (by omega) (pregV k fb ⟨BitVec.ofNat 16 s, BitVec.ofNat 16 i, 0#8, nm⟩)
  have g5 : (a4.put (some t5) (pregV k fb ⟨BitVec.ofNat 16 s, BitVec.ofNat 16 i, 0#8, nm⟩)).eval (.tmp t5) = _ := put_same (by rw [hA4.size]; omega)
  have g15 : (a4.put (some t5) (pregV k fb ⟨BitVec.ofNat 16 s, BitVec.ofNat 16 i, 0#8, nm⟩)).eval (.tmp t1) = .pointer (some ⟨fb, 0, none⟩) := by rw [put_ne (by omega)]; exact g14
  show wpList _ _ _ _ (a4.put (some t5) (pregV k fb ⟨BitVec.ofNat 16 s, BitVec.ofNat 16 i, 0#8, nm⟩)) w3
  generalize (a4.put (some t5) (pregV k fb ⟨BitVec.ofNat 16 s, BitVec.ofNat 16 i, 0#8, nm⟩)) = a5 at *
  have hF3 : FamIs w3 fb k l := hF.later (hf3.below.mono (Nat.le_of_lt hF.lt)) (fun i hi h => hf3.block i h (fun h => h))
  refine wl_call (ars := #[.pointer (some ⟨fb, 0, none⟩), pregV k fb ⟨BitVec.ofNat 16 s, BitVec.ofNat 16 i, 0#8, nm⟩]) rfl rfl (enters Tryz.func45 (by kernel_rfl) rfl) (by simp only [List.map, g15, g5]) (famadd_c w3 fb k l _ hF3 hl) ?_
  rintro e w5 ⟨rfl, hF5, hB5, _⟩
  refine ⟨_, rfl, wpList_nil ?_⟩
  exact hK _ _ (hA5.put (by omega) _) hF5 ((hf3.below.mono (Nat.le_of_lt hF.lt)).trans hB5)

set_option maxHeartbeats 800000 in
/-- one row with a flag -/
theorem line1 {a : Act} {w : World} {Q : Exit → Act → World → Prop} {k : BitVec 8} {fb : Nat} {l : List PR} {id t1 t2 tg t3 t4 t5 t6 y1 y2 yg y3 y4 y5 y6 : Nat} {p1 p2 pg p3 p4 p5 p6 : String} {e1 e2 eg e3 e4 e5 e6 : Array Edge}
    {b3 b5 b6 : Array TypeId} {s i x : Nat} {nm : ByteArray} (hk : k = 1#8 ∨ k = 2#8 ∨ k = 3#8) (hs : s < 65536) (hi : i < 65536) (hx : x < 256)
    (ht : 8 ≤ t1 ∧ t1 < t2 ∧ t2 < tg ∧ tg < t3 ∧ t3 < t4 ∧ t4 < t5 ∧ t5 < t6 ∧ t6 < 1066) (hA : FA a k fb) (hF : FamIs w fb k l) (hl : l.length ≤ 200)
    (hK : ∀ a' w', FA a' k fb → FamIs w' fb k (l ++ [⟨BitVec.ofNat 16 s, BitVec.ofNat 16 i, 0#8 ||| BitVec.ofNat 8 x, nm⟩]) → Below fb w w' → Q .normal a' w') :
    (Code.region id [
      (⟨some t1, .move (.tmp 3), y1, p1, e1, none⟩ : Oper), ⟨some t2, .move (.tmp 3), y2, p2, e2, none⟩,
      ⟨some tg, .buildSlice 146 1 #[(0, .const (.int .u8 (x : Int)))], yg, pg, eg, none⟩,
      ⟨some t3, .call ⟨.value (.func 47), #[.tmp t2, .const (.int .u16 (s : Int)), .const (.int .u16 (i : Int)), .const (.string nm), .tmp tg], b3⟩, y3, p3, e3, none⟩,
      ⟨some t4, .makeInterface 124 (.tmp t3), y4, p4, e4, none⟩,
      ⟨some t5, .call ⟨.value (.func (wrapFn k)), #[.tmp t4], b5⟩, y5, p5, e5, none⟩,
      ⟨some t6, .call ⟨.value (.func 45), #[.tmp t1, .tmp t5], b6⟩, y6, p6, e6, none⟩].toArray false).wp Tryz.prog Q a w := by
  have hsz := hA.size
  refine wp_region_lit ?_
  refine wl_val (.pointer (some ⟨fb, 0, none⟩)) rfl (by simp only [execOp, Sem.run_pure, pure, Sem.run]; rw [hA.fam]) ?_
  have hA1 := hA.put (t := t1) (by omega) (.pointer (some ⟨fb, 0, none⟩))
  have g1 : (a.put (some t1) (.pointer (some ⟨fb, 0, none⟩))).eval (.tmp t1) = .pointer (some ⟨fb, 0, none⟩) := put_same (by omega)
  show wpList _ _ _ _ (a.put (some t1) (.pointer (some ⟨fb, 0, none⟩))) w
  generalize (a.put (some t1) (.pointer (some ⟨fb, 0, none⟩))) = a1 at *
  refine wl_val (.pointer (some ⟨fb, 0, none⟩)) rfl (by simp only [execOp, Sem.run_pure, pure, Sem.run]; rw [hA1.fam]) ?_
  have hA2 := hA1.put (t := t2) (by omega) (.pointer (some ⟨fb, 0, none⟩))
  have g2 : (a1.put (some t2) (.pointer (some ⟨fb, 0, none⟩))).eval (.tmp t2) = .pointer (some ⟨fb, 0, none⟩) := put_same (by rw [hA1.size]; omega)
  have g1' : (a1.put (some t2) (.pointer (some ⟨fb, 0, none⟩))).eval (.tmp t1) = .pointer (some ⟨fb, 0, none⟩) := by rw [put_ne (by omega)]; exact g1
  show wpList _ _ _ _ (a1.put (some t2) (.pointer (some ⟨fb, 0, none⟩))) w
  generalize (a1.put (some t2) (.pointer (some ⟨fb, 0, none⟩))) = a2 at *
  have hrun : (execOp a2.eval ⟨some tg, .buildSlice 146 1 #[(0, .const (.int .u8 (x : Int)))], yg, pg, eg, none⟩).run Tryz.prog w = .ok (.value (.slice (some ⟨w.heap.size, 0, none⟩) 1 1)) (w.alloc (.cells #[u8v (BitVec.ofNat 8 x)] 122)) := by
    rw [u8_lit x hx]
    go_simp
  refine wl_valw _ _ rfl hrun ?_
  clear hrun
  have hFw : FamIs (w.alloc (.cells #[u8v (BitVec.ofNat 8 x)] 122)) fb k l := hF.later ((Below.refl fb w).alloc (Nat.le_of_lt hF.lt) _) (fun i hi h => by rw [Below.heap_alloc _ _ _ h])
  have hcx : (w.alloc (.cells #[u8v (BitVec.ofNat 8 x)] 122)).cell? ⟨w.heap.size, 0, none⟩ = some (u8v (BitVec.ofNat 8 x)) := by simp
  have hBw : Below fb w (w.alloc (.cells #[u8v (BitVec.ofNat 8 x)] 122)) := (Below.refl fb w).alloc (Nat.le_of_lt hF.lt) _
  have hA2' := hA2.put (t := tg) (by omega) (.slice (some ⟨w.heap.size, 0, none⟩) 1 1)
  have gg : (a2.put (some tg) (.slice (some ⟨w.heap.size, 0, none⟩) 1 1)).eval (.tmp tg) = .slice (some ⟨w.heap.size, 0, none⟩) 1 1 := put_same (by rw [hA2.size]; omega)
  have g2' : (a2.put (some tg) (.slice (some ⟨w.heap.size, 0, none⟩) 1 1)).eval (.tmp t2) = .pointer (some ⟨fb, 0, none⟩) := by rw [put_ne (by omega)]; exact g2
  have g1g : (a2.put (some tg) (.slice (some ⟨w.heap.size, 0, none⟩) 1 1)).eval (.tmp t1) = .pointer (some ⟨fb, 0, none⟩) := by rw [put_ne (by omega)]; exact g1'
  show wpList _ _ _ _ (a2.put (some tg) (.slice (some ⟨w.heap.size, 0, none⟩) 1 1)) _
  generalize hwx : (w.alloc (.cells #[u8v (BitVec.ofNat 8 x)] 122)) = wx at *
  have hb0 : w.heap.size = w.heap.size := rfl
  generalize (a2.put (some tg) (.slice (some ⟨w.heap.size, 0, none⟩) 1 1)) = a2x at *
  clear hF hwx
  refine wl_call (ars := #[.pointer (some ⟨fb, 0, none⟩), u16v (BitVec.ofNat 16 s), u16v (BitVec.ofNat 16 i), .string nm, .slice (some ⟨w.heap.size, 0, none⟩) 1 1]) rfl rfl (enters Tryz.func47 (by kernel_rfl) rfl) (by rw [← u16_lit s hs, ← u16_lit i hi]; simp only [List.map, g2', gg]; rfl) (newregister1_c wx ⟨fb, 0, none⟩ (BitVec.ofNat 16 s) (BitVec.ofNat 16 i) nm w.heap.size (BitVec.ofNat 8 x) hcx) ?_
  rintro e w3 ⟨rfl, hf3⟩
  refine ⟨_, rfl, ?_⟩
  have hA3 := hA2'.put (t := t3) (by omega) (.agg #[.pointer (some ⟨fb, 0, none⟩), u16v (BitVec.ofNat 16 i), .string nm, u8v (0#8 ||| BitVec.ofNat 8 x), u16v (BitVec.ofNat 16 s)])
  have g3 : (a2x.put (some t3) (.agg #[.pointer (some ⟨fb, 0, none⟩), u16v (BitVec.ofNat 16 i), .string nm, u8v (0#8 ||| BitVec.ofNat 8 x), u16v (BitVec.ofNat 16 s)])).eval (.tmp t3) = _ := put_same (by rw [hA2'.size]; omega)
  have g13 : (a2x.put (some t3) (.agg #[.pointer (some ⟨fb, 0, none⟩), u16v (BitVec.ofNat 16 i), .string nm, u8v (0#8 ||| BitVec.ofNat 8 x), u16v (BitVec.ofNat 16 s)])).eval (.tmp t1) = .pointer (some ⟨fb, 0, none⟩) := by rw [put_ne (by omega)]; exact g1g
  show wpList _ _ _ _ (a2x.put (some t3) (.agg #[.pointer (some ⟨fb, 0, none⟩), u16v (BitVec.ofNat 16 i), .string nm, u8v (0#8 ||| BitVec.ofNat 8 x), u16v (BitVec.ofNat 16 s)])) w3
  generalize (a2x.put (some t3) (.agg #[.pointer (some ⟨fb, 0, none⟩), u16v (BitVec.ofNat 16 i), .string nm, u8v (0#8 ||| BitVec.ofNat 8 x), u16v (BitVec.ofNat 16 s)])) = a3 at *
  refine wl_val (.iface 124 (.agg #[.pointer (some ⟨fb, 0, none⟩), u16v (BitVec.ofNat 16 i), .string nm, u8v (0#8 ||| BitVec.ofNat 8 x), u16v (BitVec.ofNat 16 s)])) rfl (by
    simp only [execOp, Sem.run_bind, g3]
    rw [run_makeInterface w3 124 _ (by kernel_rfl)]; rfl) ?_
  have hA4 := hA3.put (t := t4) (by omega) (.iface 124 (.agg #[.pointer (some ⟨fb, 0, none⟩), u16v (BitVec.ofNat 16 i), .string nm, u8v (0#8 ||| BitVec.ofNat 8 x), u16v (BitVec.ofNat 16 s)]))
  have g4 : (a3.put (some t4) (.iface 124 (.agg #[.pointer (some ⟨fb, 0, none⟩), u16v (BitVec.ofNat 16 i), .string nm, u8v (0#8 ||| BitVec.ofNat 8 x), u16v (BitVec.ofNat 16 s)]))).eval (.tmp t4) = _ := put_same (by rw [hA3.size]; omega)
  have g14 : (a3.put (some t4) (.iface 124 (.agg #[.pointer (some ⟨fb, 0, none⟩), u16v (BitVec.ofNat 16 i), .string nm, u8v (0#8 ||| BitVec.ofNat 8 x), u16v (BitVec.ofNat 16 s)]))).eval (.tmp t1) = .pointer (some ⟨fb, 0, none⟩) := by rw [put_ne (by omega)]; exact g13
  show wpList _ _ _ _ (a3.put (some t4) (.iface 124 (.agg #[.pointer (some ⟨fb, 0, none⟩), u16v (BitVec.ofNat 16 i), .string nm, u8v (0#8 ||| BitVec.ofNat 8 x), u16v (BitVec.ofNat 16 s)]))) w3
  generalize (a3.put (some t4) (.iface 124 (.agg #[.pointer (some ⟨fb, 0, none⟩), u16v (BitVec.ofNat 16 i), .string nm, u8v (0#8 ||| BitVec.ofNat 8 x), u16v (BitVec.ofNat 16 s)]))) = a4 at *
  refine wl_call (ars := #[.iface 124 (.agg #[.pointer (some ⟨fb, 0, none⟩), u16v (BitVec.ofNat 16 i), .string nm, u8v (0#8 ||| BitVec.ofNat 8 x), u16v (BitVec.ofNat 16 s)])]) rfl rfl (wrap_enters k) (by simp only [List.map, g4]) (wrap_c w3 k hk ⟨fb, 0, none⟩ (BitVec.ofNat 16 i) nm (0#8 ||| BitVec.ofNat 8 x) (BitVec.ofNat 16 s)) ?_
  rintro e w4 ⟨rfl, rfl⟩
  refine ⟨_, rfl, ?_⟩
  have hA5 := hA4.put (t := t5) (by omega) (pregV k fb ⟨BitVec.ofNat 16 s, BitVec.ofNat 16 i, 0#8 ||| BitVec.ofNat 8 x, nm⟩)
  have g5 : (a4.put (some t5) (pregV k fb ⟨BitVec.ofNat 16 s, BitVec.ofNat 16 i, 0#8 ||| BitVec.ofNat 8 x, nm⟩)).eval (.tmp t5) = _ := put_same (by rw [hA4.size]; omega)
  have g15 : (a4.put (some t5) (pregV k fb ⟨BitVec.ofNat 16 s, BitVec.ofNat 16 i, 0#8 ||| BitVec.ofNat 8 x, nm⟩)).eval (.tmp t1) = .pointer (some ⟨fb, 0, none⟩) := by rw [put_ne (by omega)]; exact g14
  show wpList _ _ _ _ (a4.put (some t5) (pregV k fb ⟨BitVec.ofNat 16 s, BitVec.ofNat 16 i, 0#8 ||| BitVec.ofNat 8 x, nm⟩)) w3
  generalize (a4.put (some t5) (pregV k fb ⟨BitVec.ofNat 16 s, BitVec.ofNat 16 i, 0#8 ||| BitVec.ofNat 8 x, nm⟩)) = a5 at *
  have hF3 : FamIs w3 fb k l := hFw.later (hf3.below.mono (Nat.le_of_lt hFw.lt)) (fun i hi h => hf3.block i h (fun h => h))
  refine wl_call (ars := #[.pointer (some ⟨fb, 0, none⟩), pregV k fb ⟨BitVec.ofNat 16 s, BitVec.ofNat 16 i, 0#8 ||| BitVec.ofNat 8 x, nm⟩]) rfl rfl (enters Tryz.func45 (by kernel_rfl) rfl) (by simp only [List.map, g15, g5]) (famadd_c w3 fb k l _ hF3 hl) ?_
  rintro e w5 ⟨rfl, hF5, hB5, _⟩
  refine ⟨_, rfl, wpList_nil ?_⟩
  exact hK _ _ (hA5.put (by omega) _) hF5 (hBw.trans ((hf3.below.mono (Nat.le_of_lt hFw.lt)).trans hB5))

def tabPs : List PR := [
  ⟨BitVec.ofInt 16 0, BitVec.ofInt 16 0, 0#8, ⟨#[70, 80]⟩⟩,
  ⟨BitVec.ofInt 16 0, BitVec.ofInt 16 0, 0#8, ⟨#[80, 67]⟩⟩,
  ⟨BitVec.ofInt 16 0, BitVec.ofInt 16 0, 0#8, ⟨#[83, 66]⟩⟩,
  ⟨BitVec.ofInt 16 0, BitVec.ofInt 16 0, 0#8, ⟨#[83, 80]⟩⟩]
def tabGP : List PR := [
  ⟨BitVec.ofInt 16 1, BitVec.ofInt 16 0, 0#8, ⟨#[65, 76]⟩⟩,
  ⟨BitVec.ofInt 16 1, BitVec.ofInt 16 1, 0#8, ⟨#[67, 76]⟩⟩,
  ⟨BitVec.ofInt 16 1, BitVec.ofInt 16 2, 0#8, ⟨#[68, 76]⟩⟩,
  ⟨BitVec.ofInt 16 1, BitVec.ofInt 16 3, 0#8, ⟨#[66, 76]⟩⟩,
  ⟨BitVec.ofInt 16 2, BitVec.ofInt 16 0, 0#8, ⟨#[65, 72]⟩⟩,
  ⟨BitVec.ofInt 16 2, BitVec.ofInt 16 1, 0#8, ⟨#[67, 72]⟩⟩,
  ⟨BitVec.ofInt 16 2, BitVec.ofInt 16 2, 0#8, ⟨#[68, 72]⟩⟩,
  ⟨BitVec.ofInt 16 2, BitVec.ofInt 16 3, 0#8, ⟨#[66, 72]⟩⟩,
  ⟨BitVec.ofInt 16 1, BitVec.ofInt 16 4, 0#8 ||| BitVec.ofInt 8 2, ⟨#[83, 80]⟩⟩,
  ⟨BitVec.ofInt 16 1, BitVec.ofInt 16 5, 0#8 ||| BitVec.ofInt 8 4, ⟨#[66, 80]⟩⟩,
  ⟨BitVec.ofInt 16 1, BitVec.ofInt 16 6, 0#8, ⟨#[83, 73]⟩⟩,
  ⟨BitVec.ofInt 16 1, BitVec.ofInt 16 7, 0#8, ⟨#[68, 73]⟩⟩,
  ⟨BitVec.ofInt 16 1, BitVec.ofInt 16 8, 0#8, ⟨#[82, 56]⟩⟩,
  ⟨BitVec.ofInt 16 1, BitVec.ofInt 16 9, 0#8, ⟨#[82, 57]⟩⟩,
  ⟨BitVec.ofInt 16 1, BitVec.ofInt 16 10, 0#8, ⟨#[82, 49, 48]⟩⟩,
  ⟨BitVec.ofInt 16 1, BitVec.ofInt 16 11, 0#8, ⟨#[82, 49, 49]⟩⟩,
  ⟨BitVec.ofInt 16 1, BitVec.ofInt 16 12, 0#8, ⟨#[82, 49, 50]⟩⟩,
  ⟨BitVec.ofInt 16 1, BitVec.ofInt 16 13, 0#8, ⟨#[82, 49, 51]⟩⟩,
  ⟨BitVec.ofInt 16 1, BitVec.ofInt 16 14, 0#8, ⟨#[82, 49, 52]⟩⟩,
  ⟨BitVec.ofInt 16 1, BitVec.ofInt 16 15, 0#8, ⟨#[82, 49, 53]⟩⟩,
  ⟨BitVec.ofInt 16 3, BitVec.ofInt 16 0, 0#8, ⟨#[65, 88]⟩⟩,
  ⟨BitVec.ofInt 16 3, BitVec.ofInt 16 1, 0#8, ⟨#[67, 88]⟩⟩,
  ⟨BitVec.ofInt 16 3, BitVec.ofInt 16 2, 0#8, ⟨#[68, 88]⟩⟩,
  ⟨BitVec.ofInt 16 3, BitVec.ofInt 16 3, 0#8, ⟨#[66, 88]⟩⟩,
  ⟨BitVec.ofInt 16 3, BitVec.ofInt 16 4, 0#8 ||| BitVec.ofInt 8 2, ⟨#[83, 80]⟩⟩,
  ⟨BitVec.ofInt 16 3, BitVec.ofInt 16 5, 0#8 ||| BitVec.ofInt 8 4, ⟨#[66, 80]⟩⟩,
  ⟨BitVec.ofInt 16 3, BitVec.ofInt 16 6, 0#8, ⟨#[83, 73]⟩⟩,
  ⟨BitVec.ofInt 16 3, BitVec.ofInt 16 7, 0#8, ⟨#[68, 73]⟩⟩,
  ⟨BitVec.ofInt 16 3, BitVec.ofInt 16 8, 0#8, ⟨#[82, 56]⟩⟩,
  ⟨BitVec.ofInt 16 3, BitVec.ofInt 16 9, 0#8, ⟨#[82, 57]⟩⟩,
  ⟨BitVec.ofInt 16 3, BitVec.ofInt 16 10, 0#8, ⟨#[82, 49, 48]⟩⟩,
  ⟨BitVec.ofInt 16 3, BitVec.ofInt 16 11, 0#8, ⟨#[82, 49, 49]⟩⟩,
  ⟨BitVec.ofInt 16 3, BitVec.ofInt 16 12, 0#8, ⟨#[82, 49, 50]⟩⟩,
  ⟨BitVec.ofInt 16 3, BitVec.ofInt 16 13, 0#8, ⟨#[82, 49, 51]⟩⟩,
  ⟨BitVec.ofInt 16 3, BitVec.ofInt 16 14, 0#8, ⟨#[82, 49, 52]⟩⟩,
  ⟨BitVec.ofInt 16 3, BitVec.ofInt 16 15, 0#8, ⟨#[82, 49, 53]⟩⟩,
  ⟨BitVec.ofInt 16 7, BitVec.ofInt 16 0, 0#8, ⟨#[65, 88]⟩⟩,
  ⟨BitVec.ofInt 16 7, BitVec.ofInt 16 1, 0#8, ⟨#[67, 88]⟩⟩,
  ⟨BitVec.ofInt 16 7, BitVec.ofInt 16 2, 0#8, ⟨#[68, 88]⟩⟩,
  ⟨BitVec.ofInt 16 7, BitVec.ofInt 16 3, 0#8, ⟨#[66, 88]⟩⟩,
  ⟨BitVec.ofInt 16 7, BitVec.ofInt 16 4, 0#8 ||| BitVec.ofInt 8 2, ⟨#[83, 80]⟩⟩,
  ⟨BitVec.ofInt 16 7, BitVec.ofInt 16 5, 0#8 ||| BitVec.ofInt 8 4, ⟨#[66, 80]⟩⟩,
  ⟨BitVec.ofInt 16 7, BitVec.ofInt 16 6, 0#8, ⟨#[83, 73]⟩⟩,
  ⟨BitVec.ofInt 16 7, BitVec.ofInt 16 7, 0#8, ⟨#[68, 73]⟩⟩,
  ⟨BitVec.ofInt 16 7, BitVec.ofInt 16 8, 0#8, ⟨#[82, 56]⟩⟩,
  ⟨BitVec.ofInt 16 7, BitVec.ofInt 16 9, 0#8, ⟨#[82, 57]⟩⟩,
  ⟨BitVec.ofInt 16 7, BitVec.ofInt 16 10, 0#8, ⟨#[82, 49, 48]⟩⟩,
  ⟨BitVec.ofInt 16 7, BitVec.ofInt 16 11, 0#8, ⟨#[82, 49, 49]⟩⟩,
  ⟨BitVec.ofInt 16 7, BitVec.ofInt 16 12, 0#8, ⟨#[82, 49, 50]⟩⟩,
  ⟨BitVec.ofInt 16 7, BitVec.ofInt 16 13, 0#8, ⟨#[82, 49, 51]⟩⟩,
  ⟨BitVec.ofInt 16 7, BitVec.ofInt 16 14, 0#8, ⟨#[82, 49, 52]⟩⟩,
  ⟨BitVec.ofInt 16 7, BitVec.ofInt 16 15, 0#8, ⟨#[82, 49, 53]⟩⟩,
  ⟨BitVec.ofInt 16 15, BitVec.ofInt 16 0, 0#8, ⟨#[65, 88]⟩⟩,
  ⟨BitVec.ofInt 16 15, BitVec.ofInt 16 1, 0#8, ⟨#[67, 88]⟩⟩,
  ⟨BitVec.ofInt 16 15, BitVec.ofInt 16 2, 0#8, ⟨#[68, 88]⟩⟩,
  ⟨BitVec.ofInt 16 15, BitVec.ofInt 16 3, 0#8, ⟨#[66, 88]⟩⟩,
  ⟨BitVec.ofInt 16 15, BitVec.ofInt 16 4, 0#8 ||| BitVec.ofInt 8 2, ⟨#[83, 80]⟩⟩,
  ⟨BitVec.ofInt 16 15, BitVec.ofInt 16 5, 0#8 ||| BitVec.ofInt 8 4, ⟨#[66, 80]⟩⟩,
  ⟨BitVec.ofInt 16 15, BitVec.ofInt 16 6, 0#8, ⟨#[83, 73]⟩⟩,
  ⟨BitVec.ofInt 16 15, BitVec.ofInt 16 7, 0#8, ⟨#[68, 73]⟩⟩,
  ⟨BitVec.ofInt 16 15, BitVec.ofInt 16 8, 0#8, ⟨#[82, 56]⟩⟩,
  ⟨BitVec.ofInt 16 15, BitVec.ofInt 16 9, 0#8, ⟨#[82, 57]⟩⟩,
  ⟨BitVec.ofInt 16 15, BitVec.ofInt 16 10, 0#8, ⟨#[82, 49, 48]⟩⟩,
  ⟨BitVec.ofInt 16 15, BitVec.ofInt 16 11, 0#8, ⟨#[82, 49, 49]⟩⟩,
  ⟨BitVec.ofInt 16 15, BitVec.ofInt 16 12, 0#8, ⟨#[82, 49, 50]⟩⟩,
  ⟨BitVec.ofInt 16 15, BitVec.ofInt 16 13, 0#8, ⟨#[82, 49, 51]⟩⟩,
  ⟨BitVec.ofInt 16 15, BitVec.ofInt 16 14, 0#8, ⟨#[82, 49, 52]⟩⟩,
  ⟨BitVec.ofInt 16 15, BitVec.ofInt 16 15, 0#8, ⟨#[82, 49, 53]⟩⟩]
def tabVec : List PR := [
  ⟨BitVec.ofInt 16 31, BitVec.ofInt 16 0, 0#8, ⟨#[88, 48]⟩⟩,
  ⟨BitVec.ofInt 16 31, BitVec.ofInt 16 1, 0#8, ⟨#[88, 49]⟩⟩,
  ⟨BitVec.ofInt 16 31, BitVec.ofInt 16 2, 0#8, ⟨#[88, 50]⟩⟩,
  ⟨BitVec.ofInt 16 31, BitVec.ofInt 16 3, 0#8, ⟨#[88, 51]⟩⟩,
  ⟨BitVec.ofInt 16 31, BitVec.ofInt 16 4, 0#8, ⟨#[88, 52]⟩⟩,
  ⟨BitVec.ofInt 16 31, BitVec.ofInt 16 5, 0#8, ⟨#[88, 53]⟩⟩,
  ⟨BitVec.ofInt 16 31, BitVec.ofInt 16 6, 0#8, ⟨#[88, 54]⟩⟩,
  ⟨BitVec.ofInt 16 31, BitVec.ofInt 16 7, 0#8, ⟨#[88, 55]⟩⟩,
  ⟨BitVec.ofInt 16 31, BitVec.ofInt 16 8, 0#8, ⟨#[88, 56]⟩⟩,
  ⟨BitVec.ofInt 16 31, BitVec.ofInt 16 9, 0#8, ⟨#[88, 57]⟩⟩,
  ⟨BitVec.ofInt 16 31, BitVec.ofInt 16 10, 0#8, ⟨#[88, 49, 48]⟩⟩,
  ⟨BitVec.ofInt 16 31, BitVec.ofInt 16 11, 0#8, ⟨#[88, 49, 49]⟩⟩,
  ⟨BitVec.ofInt 16 31, BitVec.ofInt 16 12, 0#8, ⟨#[88, 49, 50]⟩⟩,
  ⟨BitVec.ofInt 16 31, BitVec.ofInt 16 13, 0#8, ⟨#[88, 49, 51]⟩⟩,
  ⟨BitVec.ofInt 16 31, BitVec.ofInt 16 14, 0#8, ⟨#[88, 49, 52]⟩⟩,
  ⟨BitVec.ofInt 16 31, BitVec.ofInt 16 15, 0#8, ⟨#[88, 49, 53]⟩⟩,
  ⟨BitVec.ofInt 16 31, BitVec.ofInt 16 16, 0#8, ⟨#[88, 49, 54]⟩⟩,
  ⟨BitVec.ofInt 16 31, BitVec.ofInt 16 17, 0#8, ⟨#[88, 49, 55]⟩⟩,
  ⟨BitVec.ofInt 16 31, BitVec.ofInt 16 18, 0#8, ⟨#[88, 49, 56]⟩⟩,
  ⟨BitVec.ofInt 16 31, BitVec.ofInt 16 19, 0#8, ⟨#[88, 49, 57]⟩⟩,
  ⟨BitVec.ofInt 16 31, BitVec.ofInt 16 20, 0#8, ⟨#[88, 50, 48]⟩⟩,
  ⟨BitVec.ofInt 16 31, BitVec.ofInt 16 21, 0#8, ⟨#[88, 50, 49]⟩⟩,
  ⟨BitVec.ofInt 16 31, BitVec.ofInt 16 22, 0#8, ⟨#[88, 50, 50]⟩⟩,
  ⟨BitVec.ofInt 16 31, BitVec.ofInt 16 23, 0#8, ⟨#[88, 50, 51]⟩⟩,
  ⟨BitVec.ofInt 16 31, BitVec.ofInt 16 24, 0#8, ⟨#[88, 50, 52]⟩⟩,
  ⟨BitVec.ofInt 16 31, BitVec.ofInt 16 25, 0#8, ⟨#[88, 50, 53]⟩⟩,
  ⟨BitVec.ofInt 16 31, BitVec.ofInt 16 26, 0#8, ⟨#[88, 50, 54]⟩⟩,
  ⟨BitVec.ofInt 16 31, BitVec.ofInt 16 27, 0#8, ⟨#[88, 50, 55]⟩⟩,
  ⟨BitVec.ofInt 16 31, BitVec.ofInt 16 28, 0#8, ⟨#[88, 50, 56]⟩⟩,
  ⟨BitVec.ofInt 16 31, BitVec.ofInt 16 29, 0#8, ⟨#[88, 50, 57]⟩⟩,
  ⟨BitVec.ofInt 16 31, BitVec.ofInt 16 30, 0#8, ⟨#[88, 51, 48]⟩⟩,
  ⟨BitVec.ofInt 16 31, BitVec.ofInt 16 31, 0#8, ⟨#[88, 51, 49]⟩⟩,
  ⟨BitVec.ofInt 16 63, BitVec.ofInt 16 0, 0#8, ⟨#[89, 48]⟩⟩,
  ⟨BitVec.ofInt 16 63, BitVec.ofInt 16 1, 0#8, ⟨#[89, 49]⟩⟩,
  ⟨BitVec.ofInt 16 63, BitVec.ofInt 16 2, 0#8, ⟨#[89, 50]⟩⟩,
  ⟨BitVec.ofInt 16 63, BitVec.ofInt 16 3, 0#8, ⟨#[89, 51]⟩⟩,
  ⟨BitVec.ofInt 16 63, BitVec.ofInt 16 4, 0#8, ⟨#[89, 52]⟩⟩,
  ⟨BitVec.ofInt 16 63, BitVec.ofInt 16 5, 0#8, ⟨#[89, 53]⟩⟩,
  ⟨BitVec.ofInt 16 63, BitVec.ofInt 16 6, 0#8, ⟨#[89, 54]⟩⟩,
  ⟨BitVec.ofInt 16 63, BitVec.ofInt 16 7, 0#8, ⟨#[89, 55]⟩⟩,
  ⟨BitVec.ofInt 16 63, BitVec.ofInt 16 8, 0#8, ⟨#[89, 56]⟩⟩,
  ⟨BitVec.ofInt 16 63, BitVec.ofInt 16 9, 0#8, ⟨#[89, 57]⟩⟩,
  ⟨BitVec.ofInt 16 63, BitVec.ofInt 16 10, 0#8, ⟨#[89, 49, 48]⟩⟩,
  ⟨BitVec.ofInt 16 63, BitVec.ofInt 16 11, 0#8, ⟨#[89, 49, 49]⟩⟩,
  ⟨BitVec.ofInt 16 63, BitVec.ofInt 16 12, 0#8, ⟨#[89, 49, 50]⟩⟩,
  ⟨BitVec.ofInt 16 63, BitVec.ofInt 16 13, 0#8, ⟨#[89, 49, 51]⟩⟩,
  ⟨BitVec.ofInt 16 63, BitVec.ofInt 16 14, 0#8, ⟨#[89, 49, 52]⟩⟩,
  ⟨BitVec.ofInt 16 63, BitVec.ofInt 16 15, 0#8, ⟨#[89, 49, 53]⟩⟩,
  ⟨BitVec.ofInt 16 63, BitVec.ofInt 16 16, 0#8, ⟨#[89, 49, 54]⟩⟩,
  ⟨BitVec.ofInt 16 63, BitVec.ofInt 16 17, 0#8, ⟨#[89, 49, 55]⟩⟩,
  ⟨BitVec.ofInt 16 63, BitVec.ofInt 16 18, 0#8, ⟨#[89, 49, 56]⟩⟩,
  ⟨BitVec.ofInt 16 63, BitVec.ofInt 16 19, 0#8, ⟨#[89, 49, 57]⟩⟩,
  ⟨BitVec.ofInt 16 63, BitVec.ofInt 16 20, 0#8, ⟨#[89, 50, 48]⟩⟩,
  ⟨BitVec.ofInt 16 63, BitVec.ofInt 16 21, 0#8, ⟨#[89, 50, 49]⟩⟩,
  ⟨BitVec.ofInt 16 63, BitVec.ofInt 16 22, 0#8, ⟨#[89, 50, 50]⟩⟩,
  ⟨BitVec.ofInt 16 63, BitVec.ofInt 16 23, 0#8, ⟨#[89, 50, 51]⟩⟩,
  ⟨BitVec.ofInt 16 63, BitVec.ofInt 16 24, 0#8, ⟨#[89, 50, 52]⟩⟩,
  ⟨BitVec.ofInt 16 63, BitVec.ofInt 16 25, 0#8, ⟨#[89, 50, 53]⟩⟩,
  ⟨BitVec.ofInt 16 63, BitVec.ofInt 16 26, 0#8, ⟨#[89, 50, 54]⟩⟩,
  ⟨BitVec.ofInt 16 63, BitVec.ofInt 16 27, 0#8, ⟨#[89, 50, 55]⟩⟩,
  ⟨BitVec.ofInt 16 63, BitVec.ofInt 16 28, 0#8, ⟨#[89, 50, 56]⟩⟩,
  ⟨BitVec.ofInt 16 63, BitVec.ofInt 16 29, 0#8, ⟨#[89, 50, 57]⟩⟩,
  ⟨BitVec.ofInt 16 63, BitVec.ofInt 16 30, 0#8, ⟨#[89, 51, 48]⟩⟩,
  ⟨BitVec.ofInt 16 63, BitVec.ofInt 16 31, 0#8, ⟨#[89, 51, 49]⟩⟩,
  ⟨BitVec.ofInt 16 127, BitVec.ofInt 16 0, 0#8, ⟨#[90, 48]⟩⟩,
  ⟨BitVec.ofInt 16 127, BitVec.ofInt 16 1, 0#8, ⟨#[90, 49]⟩⟩,
  ⟨BitVec.ofInt 16 127, BitVec.ofInt 16 2, 0#8, ⟨#[90, 50]⟩⟩,
  ⟨BitVec.ofInt 16 127, BitVec.ofInt 16 3, 0#8, ⟨#[90, 51]⟩⟩,
  ⟨BitVec.ofInt 16 127, BitVec.ofInt 16 4, 0#8, ⟨#[90, 52]⟩⟩,
  ⟨BitVec.ofInt 16 127, BitVec.ofInt 16 5, 0#8, ⟨#[90, 53]⟩⟩,
  ⟨BitVec.ofInt 16 127, BitVec.ofInt 16 6, 0#8, ⟨#[90, 54]⟩⟩,
  ⟨BitVec.ofInt 16 127, BitVec.ofInt 16 7, 0#8, ⟨#[90, 55]⟩⟩,
  ⟨BitVec.ofInt 16 127, BitVec.ofInt 16 8, 0#8, ⟨#[90, 56]⟩⟩,
  ⟨BitVec.ofInt 16 127, BitVec.ofInt 16 9, 0#8, ⟨#[90, 57]⟩⟩,
  ⟨BitVec.ofInt 16 127, BitVec.ofInt 16 10, 0#8, ⟨#[90, 49, 48]⟩⟩,
  ⟨BitVec.ofInt 16 127, BitVec.ofInt 16 11, 0#8, ⟨#[90, 49, 49]⟩⟩,
  ⟨BitVec.ofInt 16 127, BitVec.ofInt 16 12, 0#8, ⟨#[90, 49, 50]⟩⟩,
  ⟨BitVec.ofInt 16 127, BitVec.ofInt 16 13, 0#8, ⟨#[90, 49, 51]⟩⟩,
  ⟨BitVec.ofInt 16 127, BitVec.ofInt 16 14, 0#8, ⟨#[90, 49, 52]⟩⟩,
  ⟨BitVec.ofInt 16 127, BitVec.ofInt 16 15, 0#8, ⟨#[90, 49, 53]⟩⟩,
  ⟨BitVec.ofInt 16 127, BitVec.ofInt 16 16, 0#8, ⟨#[90, 49, 54]⟩⟩,
  ⟨BitVec.ofInt 16 127, BitVec.ofInt 16 17, 0#8, ⟨#[90, 49, 55]⟩⟩,
  ⟨BitVec.ofInt 16 127, BitVec.ofInt 16 18, 0#8, ⟨#[90, 49, 56]⟩⟩,
  ⟨BitVec.ofInt 16 127, BitVec.ofInt 16 19, 0#8, ⟨#[90, 49, 57]⟩⟩,
  ⟨BitVec.ofInt 16 127, BitVec.ofInt 16 20, 0#8, ⟨#[90, 50, 48]⟩⟩,
  ⟨BitVec.ofInt 16 127, BitVec.ofInt 16 21, 0#8, ⟨#[90, 50, 49]⟩⟩,
  ⟨BitVec.ofInt 16 127, BitVec.ofInt 16 22, 0#8, ⟨#[90, 50, 50]⟩⟩,
  ⟨BitVec.ofInt 16 127, BitVec.ofInt 16 23, 0#8, ⟨#[90, 50, 51]⟩⟩,
  ⟨BitVec.ofInt 16 127, BitVec.ofInt 16 24, 0#8, ⟨#[90, 50, 52]⟩⟩,
  ⟨BitVec.ofInt 16 127, BitVec.ofInt 16 25, 0#8, ⟨#[90, 50, 53]⟩⟩,
  ⟨BitVec.ofInt 16 127, BitVec.ofInt 16 26, 0#8, ⟨#[90, 50, 54]⟩⟩,
  ⟨BitVec.ofInt 16 127, BitVec.ofInt 16 27, 0#8, ⟨#[90, 50, 55]⟩⟩,
  ⟨BitVec.ofInt 16 127, BitVec.ofInt 16 28, 0#8, ⟨#[90, 50, 56]⟩⟩,
  ⟨BitVec.ofInt 16 127, BitVec.ofInt 16 29, 0#8, ⟨#[90, 50, 57]⟩⟩,
  ⟨BitVec.ofInt 16 127, BitVec.ofInt 16 30, 0#8, ⟨#[90, 51, 48]⟩⟩,
  ⟨BitVec.ofInt 16 127, BitVec.ofInt 16 31, 0#8, ⟨#[90, 51, 49]⟩⟩]
def tabK : List PR := [
  ⟨BitVec.ofInt 16 15, BitVec.ofInt 16 0, 0#8 ||| BitVec.ofInt 8 2, ⟨#[75, 48]⟩⟩,
  ⟨BitVec.ofInt 16 15, BitVec.ofInt 16 1, 0#8, ⟨#[75, 49]⟩⟩,
  ⟨BitVec.ofInt 16 15, BitVec.ofInt 16 2, 0#8, ⟨#[75, 50]⟩⟩,
  ⟨BitVec.ofInt 16 15, BitVec.ofInt 16 3, 0#8, ⟨#[75, 51]⟩⟩,
  ⟨BitVec.ofInt 16 15, BitVec.ofInt 16 4, 0#8, ⟨#[75, 52]⟩⟩,
  ⟨BitVec.ofInt 16 15, BitVec.ofInt 16 5, 0#8, ⟨#[75, 53]⟩⟩,
  ⟨BitVec.ofInt 16 15, BitVec.ofInt 16 6, 0#8, ⟨#[75, 54]⟩⟩,
  ⟨BitVec.ofInt 16 15, BitVec.ofInt 16 7, 0#8, ⟨#[75, 55]⟩⟩]

theorem lineI0 {a : Act} {w : World} {Q : Exit → Act → World → Prop} {k : BitVec 8} {fb : Nat} {l : List PR} {id t1 t2 t3 t4 t5 t6 y1 y2 y3 y4 y5 y6 g : Nat} {p1 p2 p3 p4 p5 p6 : String} {e1 e2 e3 e4 e5 e6 : Array Edge}
    {b3 b5 b6 : Array TypeId} {s i : Int} {nm : ByteArray} (n : Nat) (hk : k = 1#8 ∨ k = 2#8 ∨ k = 3#8) (hA : FA a k fb) (hF : FamIs w fb k l) (hl : l.length ≤ n) (hg : g = wrapFn k) (hs : 0 ≤ s ∧ s < 65536) (hi : 0 ≤ i ∧ i < 65536) (hn : n ≤ 200)
    (ht : 8 ≤ t1 ∧ t1 < t2 ∧ t2 < t3 ∧ t3 < t4 ∧ t4 < t5 ∧ t5 < t6 ∧ t6 < 1066)
    (hK : ∀ a' w', FA a' k fb → FamIs w' fb k (l ++ [⟨BitVec.ofInt 16 s, BitVec.ofInt 16 i, 0#8, nm⟩]) → (l ++ [(⟨BitVec.ofInt 16 s, BitVec.ofInt 16 i, 0#8, nm⟩ : PR)]).length ≤ n + 1 → Below fb w w' → Q .normal a' w') :
    (Code.region id [
      (⟨some t1, .move (.tmp 3), y1, p1, e1, none⟩ : Oper), ⟨some t2, .move (.tmp 3), y2, p2, e2, none⟩,
      ⟨some t3, .call ⟨.value (.func 47), #[.tmp t2, .const (.int .u16 s), .const (.int .u16 i), .const (.string nm), .const (.slice none 0 0)], b3⟩, y3, p3, e3, none⟩,
      ⟨some t4, .makeInterface 124 (.tmp t3), y4, p4, e4, none⟩,
      ⟨some t5, .call ⟨.value (.func g), #[.tmp t4], b5⟩, y5, p5, e5, none⟩,
      ⟨some t6, .call ⟨.value (.func 45), #[.tmp t1, .tmp t5], b6⟩, y6, p6, e6, none⟩].toArray false).wp Tryz.prog Q a w := by
  subst hg
  obtain ⟨s, rfl⟩ := Int.eq_ofNat_of_zero_le hs.1
  obtain ⟨i, rfl⟩ := Int.eq_ofNat_of_zero_le hi.1
  refine line0 hk (by omega) (by omega) ht hA hF (by omega) fun a' w' h1 h2 h3 => ?_
  simp only [BitVec.ofInt_natCast] at hK
  exact hK a' w' h1 h2 (by rw [List.length_append]; simp; omega) h3

theorem lineI1 {a : Act} {w : World} {Q : Exit → Act → World → Prop} {k : BitVec 8} {fb : Nat} {l : List PR} {id t1 t2 tg t3 t4 t5 t6 y1 y2 yg y3 y4 y5 y6 g : Nat} {p1 p2 pg p3 p4 p5 p6 : String} {e1 e2 eg e3 e4 e5 e6 : Array Edge}
    {b3 b5 b6 : Array TypeId} {s i x : Int} {nm : ByteArray} (n : Nat) (hk : k = 1#8 ∨ k = 2#8 ∨ k = 3#8) (hA : FA a k fb) (hF : FamIs w fb k l) (hl : l.length ≤ n) (hg : g = wrapFn k) (hs : 0 ≤ s ∧ s < 65536) (hi : 0 ≤ i ∧ i < 65536) (hn : n ≤ 200)
    (hx : 0 ≤ x ∧ x < 256) (ht : 8 ≤ t1 ∧ t1 < t2 ∧ t2 < tg ∧ tg < t3 ∧ t3 < t4 ∧ t4 < t5 ∧ t5 < t6 ∧ t6 < 1066)
    (hK : ∀ a' w', FA a' k fb → FamIs w' fb k (l ++ [⟨BitVec.ofInt 16 s, BitVec.ofInt 16 i, 0#8 ||| BitVec.ofInt 8 x, nm⟩]) → (l ++ [(⟨BitVec.ofInt 16 s, BitVec.ofInt 16 i, 0#8 ||| BitVec.ofInt 8 x, nm⟩ : PR)]).length ≤ n + 1 → Below fb w w' → Q .normal a' w') :
    (Code.region id [
      (⟨some t1, .move (.tmp 3), y1, p1, e1, none⟩ : Oper), ⟨some t2, .move (.tmp 3), y2, p2, e2, none⟩,
      ⟨some tg, .buildSlice 146 1 #[(0, .const (.int .u8 x))], yg, pg, eg, none⟩,
      ⟨some t3, .call ⟨.value (.func 47), #[.tmp t2, .const (.int .u16 s), .const (.int .u16 i), .const (.string nm), .tmp tg], b3⟩, y3, p3, e3, none⟩,
      ⟨some t4, .makeInterface 124 (.tmp t3), y4, p4, e4, none⟩,
      ⟨some t5, .call ⟨.value (.func g), #[.tmp t4], b5⟩, y5, p5, e5, none⟩,
      ⟨some t6, .call ⟨.value (.func 45), #[.tmp t1, .tmp t5], b6⟩, y6, p6, e6, none⟩].toArray false).wp Tryz.prog Q a w := by
  subst hg
  obtain ⟨s, rfl⟩ := Int.eq_ofNat_of_zero_le hs.1
  obtain ⟨i, rfl⟩ := Int.eq_ofNat_of_zero_le hi.1
  obtain ⟨x, rfl⟩ := Int.eq_ofNat_of_zero_le hx.1
  refine line1 hk (by omega) (by omega) (by omega) ht hA hF (by omega) fun a' w' h1 h2 h3 => ?_
  simp only [BitVec.ofInt_natCast] at hK
  exact hK a' w' h1 h2 (by rw [List.length_append]; simp; omega) h3

/-- the beginning: the family's block is laid, the kind is looked at -/
theorem fam_start {k : BitVec 8} {w : World} {Q : Exit → Act → World → Prop} {c d : Code} {y0 y1 y2 y3 y4 y5 : Nat} {p0 p1 p2 p3 p4 p5 : String} {e0 e1 e2 e3 e4 e5 : Array Edge} {i0 i1 i2 : Nat}
    (a : Act) (hs : a.tmps.size = 1066) (hd : a.defers = []) (h0 : a.eval (.tmp 0) = u8v k)
    (hK : ∀ a', FA a' k w.heap.size → FamIs (w.alloc (.cells #[u8v k, .slice none 0 0] 116)) w.heap.size k [] → c.wp Tryz.prog (Exit.then (d.wp Tryz.prog Q) Q) a' (w.alloc (.cells #[u8v k, .slice none 0 0] 116))) :
    ((Code.region i0 [(⟨some 2, .assign (.const (.pointer none)), y0, p0, e0, none⟩ : Oper)].toArray false).seq
      ((Code.region i1 [(⟨some 4, .move (.tmp 0), y1, p1, e1, none⟩ : Oper), ⟨some 5, .build 116 #[(0, .tmp 4)], y2, p2, e2, none⟩, ⟨some 6, .box 116 (.tmp 5), y3, p3, e3, none⟩, ⟨some 3, .assign (.tmp 6), y4, p4, e4, none⟩].toArray false).seq
        (((Code.region i2 [(⟨some 7, .move (.tmp 0), y5, p5, e5, none⟩ : Oper)].toArray false).seq c).seq d))).wp Tryz.prog Q a w := by
  refine wp_seq (wp_region_lit (wl_val (.pointer none) rfl rfl (wpList_nil ?_)))
  show Exit.then _ _ _ (a.put (some 2) (.pointer none)) w
  have s1 : (a.put (some 2) (.pointer none)).tmps.size = 1066 := by rw [put_size]; exact hs
  have d1 : (a.put (some 2) (.pointer none)).defers = [] := by rw [put_defers]; exact hd
  have z1 : (a.put (some 2) (.pointer none)).eval (.tmp 0) = u8v k := by rw [put_ne (by omega)]; exact h0
  generalize (a.put (some 2) (.pointer none)) = a1 at *
  refine wp_seq (wp_region_lit (wl_val (u8v k) rfl (by simp only [execOp, pure, Sem.run]; rw [z1]) ?_))
  show wpList _ _ _ _ (a1.put (some 4) (u8v k)) w
  have s2 : (a1.put (some 4) (u8v k)).tmps.size = 1066 := by rw [put_size]; exact s1
  have d2 : (a1.put (some 4) (u8v k)).defers = [] := by rw [put_defers]; exact d1
  have z2 : (a1.put (some 4) (u8v k)).eval (.tmp 0) = u8v k := by rw [put_ne (by omega)]; exact z1
  have g2 : (a1.put (some 4) (u8v k)).eval (.tmp 4) = u8v k := put_same (by omega)
  generalize (a1.put (some 4) (u8v k)) = a2 at *
  refine wl_val (.agg #[u8v k, .slice none 0 0]) rfl (by
    have : ((Instr.build 116 #[(0, u8v k)]).run Tryz.prog w) = .ok (.agg #[u8v k, .slice none 0 0]) w := by go_simp
    simp only [execOp, Sem.run_bind, List.map_toArray, List.map_cons, List.map_nil, g2, this]; rfl) ?_
  show wpList _ _ _ _ (a2.put (some 5) (.agg #[u8v k, .slice none 0 0])) w
  have s3 : (a2.put (some 5) (.agg #[u8v k, .slice none 0 0])).tmps.size = 1066 := by rw [put_size]; exact s2
  have d3 : (a2.put (some 5) (.agg #[u8v k, .slice none 0 0])).defers = [] := by rw [put_defers]; exact d2
  have z3 : (a2.put (some 5) (.agg #[u8v k, .slice none 0 0])).eval (.tmp 0) = u8v k := by rw [put_ne (by omega)]; exact z2
  have g3 : (a2.put (some 5) (.agg #[u8v k, .slice none 0 0])).eval (.tmp 5) = .agg #[u8v k, .slice none 0 0] := put_same (by omega)
  generalize (a2.put (some 5) (.agg #[u8v k, .slice none 0 0])) = a3 at *
  refine wl_valw (.pointer (some ⟨w.heap.size, 0, none⟩)) (w.alloc (.cells #[u8v k, .slice none 0 0] 116)) rfl (by
    have : ((Instr.box 116 (.agg #[u8v k, .slice none 0 0])).run Tryz.prog w) = .ok (.pointer (some ⟨w.heap.size, 0, none⟩)) (w.alloc (.cells #[u8v k, .slice none 0 0] 116)) := by go_simp
    simp only [execOp, Sem.run_bind, g3, this]; rfl) ?_
  have hF : FamIs (w.alloc (.cells #[u8v k, .slice none 0 0] 116)) w.heap.size k [] := ⟨none, 0, heap_alloc_new w _, Own.nil _ _ _ _ _⟩
  show wpList _ _ _ _ (a3.put (some 6) (.pointer (some ⟨w.heap.size, 0, none⟩))) _
  have s4 : (a3.put (some 6) (.pointer (some ⟨w.heap.size, 0, none⟩))).tmps.size = 1066 := by rw [put_size]; exact s3
  have d4 : (a3.put (some 6) (.pointer (some ⟨w.heap.size, 0, none⟩))).defers = [] := by rw [put_defers]; exact d3
  have z4 : (a3.put (some 6) (.pointer (some ⟨w.heap.size, 0, none⟩))).eval (.tmp 0) = u8v k := by rw [put_ne (by omega)]; exact z3
  have g4 : (a3.put (some 6) (.pointer (some ⟨w.heap.size, 0, none⟩))).eval (.tmp 6) = .pointer (some ⟨w.heap.size, 0, none⟩) := put_same (by omega)
  generalize (a3.put (some 6) (.pointer (some ⟨w.heap.size, 0, none⟩))) = a4 at *
  refine wl_val (.pointer (some ⟨w.heap.size, 0, none⟩)) rfl (by simp only [execOp, pure, Sem.run]; rw [g4]) (wpList_nil ?_)
  show Exit.then _ _ _ (a4.put (some 3) (.pointer (some ⟨w.heap.size, 0, none⟩))) _
  have s5 : (a4.put (some 3) (.pointer (some ⟨w.heap.size, 0, none⟩))).tmps.size = 1066 := by rw [put_size]; exact s4
  have d5 : (a4.put (some 3) (.pointer (some ⟨w.heap.size, 0, none⟩))).defers = [] := by rw [put_defers]; exact d4
  have z5 : (a4.put (some 3) (.pointer (some ⟨w.heap.size, 0, none⟩))).eval (.tmp 0) = u8v k := by rw [put_ne (by omega)]; exact z4
  have g5 : (a4.put (some 3) (.pointer (some ⟨w.heap.size, 0, none⟩))).eval (.tmp 3) = .pointer (some ⟨w.heap.size, 0, none⟩) := put_same (by omega)
  generalize (a4.put (some 3) (.pointer (some ⟨w.heap.size, 0, none⟩))) = a5 at *
  refine wp_seq (wp_seq (wp_region_lit (wl_val (u8v k) rfl (by simp only [execOp, pure, Sem.run]; rw [z5]) (wpList_nil ?_))))
  refine hK _ ⟨?_, ?_, ?_, ?_⟩ hF
  · rw [put_size]; exact s5
  · rw [put_defers]; exact d5
  · exact (put_ne (by omega)).trans g5
  · exact put_same (by omega)

end Go.Proofs.YtglamkopjjimjaaGreat
