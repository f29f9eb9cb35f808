/- The law FnMaskLaws, walked. -/
import Derived.Test.YtpimncafdalndaaGreatFOpen
import Derived.Deep.Cut
import Derived.Test.YtpimncafdalndaaGreatFMasks
import Derived.Test.YtpimncafdalndaaGreatFDiff
import Derived.Test.YtpimncafdalndaaGreatFTidy2
import Derived.Test.YtpimncafdalndaaGreatFSame
set_option linter.unusedVariables false
set_option linter.unusedSimpArgs false
namespace Go.Proofs.YtpimncafdalndaaGreat
open Go.RowKit

theorem rd_of_block {α : Type} {w : World} {b : Nat} {cs : Array Value} {e : TypeId} {f : Nat × Nat} {k : Nat} {enc : α → List Value} {xs : List α} (h : w.heap[b]? = some (.cells cs e f)) (hcs : cs.toList = xs.flatMap enc) (hl : ∀ x, (enc x).length = k) :
    RdS w (some ⟨b, 0, none⟩) k enc xs := by
  intro _
  refine ⟨b, 0, rfl, fun i hi j hj => ?_⟩
  rw [← flatMap_get hl xs i hi j hj, ← hcs]
  simp only [World.cell?, h, Option.isSome_none, Bool.false_eq_true, if_false, Nat.zero_add, Array.getElem?_toList]

def setStep (d : Int) (v : Value) : Step := ⟨d, 0#32, 0#16, ⟨false, 0#8, 0#16, 0#16⟩, v⟩

def fourSteps (v : Value) (t : LM) : List (Step × LM) := [(setStep 4 v, t), (setStep 4 v, t), (setStep 5 v, t), (setStep 5 v, t)]
def stepCells (d : Int) (v : Value) : List Value := [.int .i64 d, .int .u32 0, .int .u16 0, .bool false, .int .u8 0, .int .u16 0, .int .u16 0, v]
theorem encStep_set (d : Int) (v : Value) : encStep (setStep d v) = stepCells d v := rfl

theorem step4 (v : Value) (t : LM) (f : BitVec 32 → BitVec 16) (k : BitVec 32) : stepF (setStep 4 v) t f k = f k ||| maskOf k (ofL t) := by simp [stepF, setStep]
theorem step5 (v : Value) (t : LM) (f : BitVec 32 → BitVec 16) (k : BitVec 32) : stepF (setStep 5 v) t f k = f k &&& ~~~(maskOf k (ofL t)) := by simp [stepF, setStep]

theorem bv1 (x y : BitVec 16) : x ||| y ||| y = x ||| y := by ext i; simp only [BitVec.getElem_or, BitVec.getElem_and, BitVec.getElem_not, BitVec.getElem_zero]; cases x[i] <;> cases y[i] <;> rfl
theorem bv2 (x y : BitVec 16) : (x ||| y) &&& ~~~y = x &&& ~~~y := by ext i; simp only [BitVec.getElem_or, BitVec.getElem_and, BitVec.getElem_not, BitVec.getElem_zero]; cases x[i] <;> cases y[i] <;> rfl
theorem bv3 (x y : BitVec 16) : (x &&& ~~~y) &&& ~~~y = x &&& ~~~y := by ext i; simp only [BitVec.getElem_or, BitVec.getElem_and, BitVec.getElem_not, BitVec.getElem_zero]; cases x[i] <;> cases y[i] <;> rfl
theorem bv4 (x y : BitVec 16) : y &&& ~~~(x ||| y) = 0#16 := by ext i; simp only [BitVec.getElem_or, BitVec.getElem_and, BitVec.getElem_not, BitVec.getElem_zero]; cases x[i] <;> cases y[i] <;> rfl

/-- what the four told steps are -/
theorem four_told {w : World} {Ok : Nat → Prop} {v : Value} {s t : LM} {ts : List Told} (h : Trace w Ok (fun k => maskOf k (ofL s)) (fourSteps v t) ts) :
    ∃ t0 t2 l0 a0 c0 l2 a2 c2 v1 v3, ts = [⟨t0, .slice a0 (List.length l0) c0⟩, ⟨false, v1⟩, ⟨t2, .slice a2 (List.length l2) c2⟩, ⟨false, v3⟩] ∧ List.length l0 ≤ c0 ∧ RdS w a0 2 encL l0 ∧ (keys l0).Nodup ∧ (∀ k, maskOf k l0 = maskOf k (ofL s) ||| maskOf k (ofL t)) ∧
      List.length l2 ≤ c2 ∧ RdS w a2 2 encL l2 ∧ (keys l2).Nodup ∧ (∀ k, maskOf k l2 = maskOf k (ofL s) &&& ~~~(maskOf k (ofL t))) := by
  unfold fourSteps at h
  match ts, h with
  | [t0, t1, t2, t3], h =>
    obtain ⟨⟨l0, a0, c0, ⟨n0, e0, _⟩, v0, hl0, hr0, _⟩, ⟨l1, a1, c1, ⟨_, _, g1⟩, _, _, _, _⟩, ⟨l2, a2, c2, ⟨n2, e2, _⟩, v2, hl2, hr2, _⟩, ⟨l3, a3, c3, ⟨_, _, g3⟩, _, _, _, _⟩, _⟩ := h
    have h1 : t1.ch = false := g1.2 (fun k => by simp only [step4]; exact bv1 _ _)
    have h3 : t3.ch = false := g3.2 (fun k => by simp only [step4, step5]; exact bv3 _ _)
    refine ⟨t0.ch, t2.ch, l0, a0, c0, l2, a2, c2, t1.set, t3.set, ?_, hl0, hr0, n0, fun k => ?_, hl2, hr2, n2, fun k => ?_⟩
    · rw [← v0, ← v2, ← h1]; congr 3
      rw [h1, ← h3]
    · rw [e0, step4]
    · rw [e2]; simp only [step4, step5]; rw [bv1]; exact bv2 _ _

set_option maxRecDepth 100000 in
set_option maxHeartbeats 4000000 in
theorem FnMaskLaws_c (w : World) (a a2 : Option Addr) (n n2 c c2 : Nat) (s t : LM) (hs : s.length = n) (ht : t.length = n2) (hR : RdS w a 2 encL s) (hR2 : RdS w a2 2 encL t) :
    Calls Tryz.prog 3 #[.slice a n c, .slice a2 n2 c2] w fun e w' => e = .returned (.bool true) ∧ Fr Non w w' := by
  have Hs := Lib.hid hs
  have Ht := Lib.hid ht
  clear hs ht
  by_cases b1 : n ≤ 2000
  · by_cases b2 : n2 ≤ 2000
    · go_enter Tryz.func3, Tryz.ntmps3
      go_upto_region 5 with fail
      have hst : StepsRd (w.alloc (.cells #[.int .i64 4, .int .u32 0, .int .u16 0, .bool false, .int .u8 0, .int .u16 0, .int .u16 0, .slice a2 n2 c2, .int .i64 4, .int .u32 0, .int .u16 0, .bool false, .int .u8 0, .int .u16 0, .int .u16 0, .slice a2 n2 c2, .int .i64 5, .int .u32 0, .int .u16 0, .bool false, .int .u8 0, .int .u16 0, .int .u16 0, .slice a2 n2 c2, .int .i64 5, .int .u32 0, .int .u16 0, .bool false, .int .u8 0, .int .u16 0, .int .u16 0, .slice a2 n2 c2] 30)) (some ⟨w.heap.size, 0, none⟩) (fourSteps (.slice a2 n2 c2) t) := by
        have hf : Fr Non w (w.alloc (.cells #[.int .i64 4, .int .u32 0, .int .u16 0, .bool false, .int .u8 0, .int .u16 0, .int .u16 0, .slice a2 n2 c2, .int .i64 4, .int .u32 0, .int .u16 0, .bool false, .int .u8 0, .int .u16 0, .int .u16 0, .slice a2 n2 c2, .int .i64 5, .int .u32 0, .int .u16 0, .bool false, .int .u8 0, .int .u16 0, .int .u16 0, .slice a2 n2 c2, .int .i64 5, .int .u32 0, .int .u16 0, .bool false, .int .u8 0, .int .u16 0, .int .u16 0, .slice a2 n2 c2] 30)) := (Fr.refl _ _).alloc _
        refine ⟨rd_of_block (heap_alloc_new w _) rfl encStep_len, fun p hp => ⟨a2, c2, ?_⟩⟩
        have hp2 : p.2 = t ∧ p.1.set = .slice a2 n2 c2 := by
          simp only [fourSteps, List.mem_cons, List.not_mem_nil, or_false] at hp
          rcases hp with rfl | rfl | rfl | rfl <;> exact ⟨rfl, rfl⟩
        rw [hp2.1, hp2.2, Ht.out]
        exact ⟨rfl, hR2.fr hf (fun _ => rfl) (by omega) (fun _ _ h => h), by omega⟩
      have HM := Lib.hid (Masks_c _ a n c s (some ⟨w.heap.size, 0, none⟩) 4 4 (fourSteps (.slice a2 n2 c2) t) Hs.out (hR.fr ((Fr.refl Non w).alloc _) (fun _ => rfl) (by omega) (fun _ _ h => h)) (by omega) rfl (by decide) hst)
      clear hst
      go_upto_region 6 with (go_at_call 4; go_must (refine HM.out.mono ?_; rintro e w1 ⟨oa, oc, ts, rfl, hoc, hRo, htl, hnew, hT, hf1⟩))
      have hFw1 : Fr Non w w1 := ((Fr.refl Non w).alloc _).andThen hf1
      clear hf1 HM
      obtain ⟨ch0, ch2, l0, a0, c0, l2, a2', c2', v1, v3, rfl, hl0, hR0, hn0, hv0, hl2, hRl2, hn2, hv2⟩ := four_told hT
      obtain ⟨blk, off, rfl, hcell⟩ := hRo (by simp)
      have hc0 := hcell 0 (by simp) 1 (by omega)
      have hc1 := hcell 1 (by simp) 0 (by omega)
      have hc2 := hcell 2 (by simp) 1 (by omega)
      have hc3 := hcell 3 (by simp) 0 (by omega)
      simp only [encT, List.getElem_cons_zero, List.getElem_cons_succ, List.getElem?_cons_zero, List.getElem?_cons_succ, Nat.add_zero, Nat.zero_mul, Nat.one_mul] at hc0 hc1 hc2 hc3
      have hc2 : w1.cell? ⟨blk, off + 5, none⟩ = some (.slice a2' l2.length c2') := hc2
      have hlen0 := keys_len hn0
      have hlen2 := keys_len hn2
      clear hcell hRo hT htl hnew
      go_upto_region 9 with (go_at_call 5; go_must (refine (Difference_c _ a a2 n n2 c c2 s t Hs.out Ht.out (hR.fr hFw1 (fun _ => rfl) (by omega) (fun _ _ h => h)) (hR2.fr hFw1 (fun _ => rfl) (by omega) (fun _ _ h => h)) (by omega) (by omega)).mono ?_; rintro e w2 ⟨v, d, rfl, ⟨da, dc, rfl, hdc, hdR, _⟩, hdn, hdv, hf2⟩; have hFw2 := hFw1.andThen hf2; have hk2 := hf2.cell hc2 (fun h => h); have hk0 := hf2.cell hc0 (fun h => h)))
      have hlend := keys_len hdn
      have HV2 := Lib.hid hv2
      have HV0 := Lib.hid hv0
      have HDV := Lib.hid hdv
      clear hv2 hv0 hdv
      have Q1 := Lib.hid (Eq.refl 1)
      have Q2 := Lib.hid (Eq.refl 2)
      have Q3 := Lib.hid (Eq.refl 3)
      have Q4 := Lib.hid (Eq.refl 4)
      have Q5 := Lib.hid (Eq.refl 5)
      go_upto_region 11 with (first
        | (go_at_call 7; clear Q1; go_must (refine (Tidy_c _ a2' l2.length c2' l2 rfl (hRl2.fr hf2 (fun _ => rfl) (by omega) (fun _ _ h => h)) hlen2).mono ?_; rintro e w3 ⟨v3', o1, rfl, ⟨oa1, oc1, rfl, ho1, hoR1, _⟩, T1, M1, hf3⟩; have M1 := Lib.hid M1; have hk3 := hf3.cell hk0 (fun h => h)))
        | (go_at_call 7; clear Q2; go_must (refine (Tidy_c _ da d.length dc d rfl (hdR.fr hf3 (fun _ => rfl) (by omega) (fun _ _ h => h)) hlend).mono ?_; rintro e w4 ⟨v4', o2, rfl, ⟨oa2, oc2, rfl, ho2, hoR2, _⟩, T2, M2, hf4⟩; have M2 := Lib.hid M2; have hk4 := hf4.cell hk3 (fun h => h)))
        | (go_at_call 6; clear Q3; go_must (refine (SameLive_c _ oa1 oa2 _ _ oc1 oc2 o1 o2 rfl rfl (hoR1.fr hf4 (fun _ => rfl) (by omega) (fun _ _ h => h)) hoR2 (tidy_len T1) (tidy_len T2)).mono ?_; rintro e w5 ⟨rfl, hf5⟩; rw [show decide (o1 = o2) = true from decide_eq_true (tidy_ext T1 T2 (fun k => by rw [M1.out, M2.out, ofL_self hn2, ofL_self hdn, HV2.out, HDV.out]))]; have hk5 := hf5.cell hk4 (fun h => h)))
        | (go_at_call 5; clear Q4; go_must (refine (Difference_c _ a2 a0 n2 l0.length c2 c0 t l0 Ht.out rfl (hR2.fr (((hFw2.andThen hf3).andThen hf4).andThen hf5) (fun _ => rfl) (by omega) (fun _ _ h => h)) (hR0.fr (((hf2.andThen hf3).andThen hf4).andThen hf5) (fun _ => rfl) (by omega) (fun _ _ h => h)) (by omega) hlen0).mono ?_; rintro e w6 ⟨v6', d2, rfl, ⟨da2, dc2, rfl, hdc2, hdR2, _⟩, hdn2, hdv2, hf6⟩; have HDV2 := Lib.hid hdv2; clear hdv2))
        | (go_at_call 7; clear Q5; go_must (refine (Tidy_c _ da2 d2.length dc2 d2 rfl hdR2 (keys_len hdn2)).mono ?_; rintro e w7 ⟨v7', o3, rfl, ⟨oa3, oc3, rfl, ho3, hoR3, _⟩, T3, M3, hf7⟩; obtain rfl : o3 = [] := tidy_ext T3 ⟨.nil, by simp⟩ (fun k => by rw [M3, ofL_self hdn2, HDV2.out, ofL_self hn0, HV0.out]; exact bv4 _ _); clear M3)))
      have hFw7 : Fr Non w2 w7 := ((((hf3.andThen hf4).andThen hf5).andThen hf6).andThen hf7)
      have Q6 := Lib.hid (Eq.refl 6)
      have Q7 := Lib.hid (Eq.refl 7)
      have Q8 := Lib.hid (Eq.refl 8)
      have Q9 := Lib.hid (Eq.refl 9)
      go_wp2_with (first
        | (go_at_call 5; clear Q6; go_must (refine (Difference_c _ da a2 d.length n2 dc c2 d t rfl Ht.out (hdR.fr hFw7 (fun _ => rfl) (by omega) (fun _ _ h => h)) (hR2.fr (hFw2.andThen hFw7) (fun _ => rfl) (by omega) (fun _ _ h => h)) hlend (by omega)).mono ?_; rintro e w8 ⟨v8', d3, rfl, ⟨da3, dc3, rfl, hdc3, hdR3, _⟩, hdn3, hdv3, hf8⟩; have HDV3 := Lib.hid hdv3; clear hdv3))
        | (go_at_call 7; clear Q7; go_must (refine (Tidy_c _ da3 d3.length dc3 d3 rfl hdR3 (keys_len hdn3)).mono ?_; rintro e w9 ⟨v9', o4, rfl, ⟨oa4, oc4, rfl, ho4, hoR4, _⟩, T4, M4, hf9⟩; have M4 := Lib.hid M4))
        | (go_at_call 7; clear Q8; go_must (refine (Tidy_c _ da d.length dc d rfl (hdR.fr ((hFw7.andThen hf8).andThen hf9) (fun _ => rfl) (by omega) (fun _ _ h => h)) hlend).mono ?_; rintro e w10 ⟨v10', o5, rfl, ⟨oa5, oc5, rfl, ho5, hoR5, _⟩, T5, M5, hf10⟩; have M5 := Lib.hid M5))
        | (go_at_call 6; clear Q9; go_must (refine (SameLive_c _ oa4 oa5 _ _ oc4 oc5 o4 o5 rfl rfl (hoR4.fr hf10 (fun _ => rfl) (by omega) (fun _ _ h => h)) hoR5 (tidy_len T4) (tidy_len T5)).mono ?_; rintro e w11 ⟨rfl, hf11⟩; rw [show decide (o4 = o5) = true from decide_eq_true (tidy_ext T4 T5 (fun k => by rw [M4.out, M5.out, ofL_self hdn3, ofL_self hdn, HDV3.out, ofL_self hdn, HDV.out]; exact bv3 _ _))])))
      go_ret
      exact ⟨rfl, ((((hFw2.andThen hFw7).andThen hf8).andThen hf9).andThen hf10).andThen hf11⟩
    · by_cases b3 : n2 ≤ 2147483647
      · go_enter Tryz.func3, Tryz.ntmps3
        go_wp2
        go_ret
        exact ⟨rfl, Fr.refl _ _⟩
      · go_enter Tryz.func3, Tryz.ntmps3
        go_wp2
        go_ret
        exact ⟨rfl, Fr.refl _ _⟩
  · by_cases b3 : n ≤ 2147483647
    · by_cases b4 : n2 ≤ 2147483647
      · go_enter Tryz.func3, Tryz.ntmps3
        go_wp2
        go_ret
        exact ⟨rfl, Fr.refl _ _⟩
      · go_enter Tryz.func3, Tryz.ntmps3
        go_wp2
        go_ret
        exact ⟨rfl, Fr.refl _ _⟩
    · go_enter Tryz.func3, Tryz.ntmps3
      go_wp2
      go_ret
      exact ⟨rfl, Fr.refl _ _⟩

end Go.Proofs.YtpimncafdalndaaGreat
