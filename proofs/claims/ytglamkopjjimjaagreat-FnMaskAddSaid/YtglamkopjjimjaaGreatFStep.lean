/- laws.step: one step over a mask set. -/
import Derived.Test.YtglamkopjjimjaaGreatFMasks
import Derived.Test.YtglamkopjjimjaaGreatFTidy2
import Derived.Test.YtglamkopjjimjaaGreatFSame
import Derived.Test.YtglamkopjjimjaaGreatFOpen
import Derived.Test.YtglamkopjjimjaaGreatFPure
import Derived.Test.YtglamkopjjimjaaGreatFAppAll
import Derived.Deep.Cut
import Derived.Deep.RegionWith
set_option linter.unusedVariables false
set_option linter.unusedSimpArgs false
namespace Go.Proofs.YtglamkopjjimjaaGreat
open Go.RowKit

theorem rd_of_block {α : Type} {w : World} {b : Nat} {cs : Array Value} {e : TypeId} {f : Nat × Nat} {k : Nat} {enc : α → List Value} {xs : List α} (h : w.heap[b]? = some (.cells cs e f)) (hcs : cs.toList = xs.flatMap enc) (hl : ∀ x, (enc x).length = k) :
    RdS w (some ⟨b, 0, none⟩) k enc xs := by
  intro _
  refine ⟨b, 0, rfl, fun i hi j hj => ?_⟩
  rw [← flatMap_get hl xs i hi j hj, ← hcs]
  simp only [World.cell?, h, Option.isSome_none, Bool.false_eq_true, if_false, Nat.zero_add, Array.getElem?_toList]

/-- the parts that each number has after a step, and whether the step turned any -/
def Turned (x : Step) (xs s : LM) (ch : Bool) (out : LM) : Prop :=
  TidyL out ∧ (∀ k, maskOf k out = stepF x xs (fun k => maskOf k (ofL s)) k) ∧ (ch = false ↔ ∀ k, stepF x xs (fun k => maskOf k (ofL s)) k = maskOf k (ofL s))

theorem Turned.det {x y : Step} {xs ys s : LM} {c d : Bool} {o p : LM} (h : Turned x xs s c o) (g : Turned y ys s d p) (e : ∀ k, stepF x xs (fun k => maskOf k (ofL s)) k = stepF y ys (fun k => maskOf k (ofL s)) k) : c = d ∧ o = p := by
  obtain ⟨h1, h2, h3⟩ := h
  obtain ⟨g1, g2, g3⟩ := g
  refine ⟨?_, tidy_ext h1 g1 (fun k => by rw [h2, g2, e])⟩
  have : c = false ↔ d = false := by
    rw [h3, g3]
    exact ⟨fun h k => by rw [← e]; exact h k, fun h k => by rw [e]; exact h k⟩
  cases c <;> cases d <;> simp_all

theorem one_told {w : World} {Ok : Nat → Prop} {s xs : LM} {x : Step} {ts : List Told} (h : Trace w Ok (fun k => maskOf k (ofL s)) [(x, xs)] ts) :
    ∃ ch l a c, ts = [⟨ch, .slice a (List.length l) c⟩] ∧ List.length l ≤ c ∧ RdS w a 2 encL l ∧ (keys l).Nodup ∧ (∀ k, maskOf k l = stepF x xs (fun k => maskOf k (ofL s)) k) ∧ (ch = false ↔ ∀ k, stepF x xs (fun k => maskOf k (ofL s)) k = maskOf k (ofL s)) := by
  match ts, h with
  | [t0], h =>
    obtain ⟨⟨l0, a0, c0, ⟨n0, e0, g0⟩, v0, hl0, hr0, _⟩, _⟩ := h
    exact ⟨t0.ch, l0, a0, c0, by rw [← v0], hl0, hr0, n0, e0, g0⟩

set_option maxRecDepth 100000 in
set_option maxHeartbeats 4000000 in
theorem step_c (w : World) (a : Option Addr) (n c : Nat) (s : LM) (x : Step) (xs : LM) (sa : Option Addr) (sc : Nat) (hs : s.length = n) (hR : RdS w a 2 encL s) (hb : n ≤ 4294967296) (hx : x.set = .slice sa xs.length sc) (hR2 : RdS w sa 2 encL xs) (hb2 : xs.length ≤ 4294967296) :
    Calls Tryz.prog 5 #[.slice a n c, .agg #[.int .i64 x.dop, u32v x.id, u16v x.mask, .bool x.reg.virt, u8v x.reg.kind, u16v x.reg.idx, u16v x.reg.spec, .slice sa xs.length sc]] w fun e w' =>
      ∃ ch out oa oc, e = .returned (.tuple #[.bool ch, .slice oa (List.length out) oc, .bool true]) ∧ List.length out ≤ oc ∧ RdS w' oa 2 encL out ∧ Turned x xs s ch out ∧ Fr Non w w' := by
  obtain ⟨dop, id, mask, ⟨rv, rk, ri, rs⟩, set⟩ := x
  simp only at hx
  subst hx
  generalize hc0 : (#[.int .i64 dop, u32v id, u16v mask, .bool rv, u8v rk, u16v ri, u16v rs, .slice sa xs.length sc] : Array Value) = cs at *
  have hcs : cs.toList = [((⟨dop, id, mask, ⟨rv, rk, ri, rs⟩, .slice sa xs.length sc⟩ : Step), xs)].flatMap (fun p => encStep p.1) := by rw [← hc0]; rfl
  have hfr : Fr Non w ((w.alloc (.cells cs 29)).alloc (.cells cs 29)) := ((Fr.refl Non w).alloc _).alloc _
  have hst : StepsRd ((w.alloc (.cells cs 29)).alloc (.cells cs 29)) (some ⟨w.heap.size + 1, 0, none⟩) [((⟨dop, id, mask, ⟨rv, rk, ri, rs⟩, .slice sa xs.length sc⟩ : Step), xs)] := by
    refine ⟨rd_of_block (b := w.heap.size + 1) (cs := cs) (e := 29) (f := (0, 0)) ?_ hcs encStep_len, fun p hp => ?_⟩
    · have := heap_alloc_new (w.alloc (.cells cs 29)) (.cells cs 29)
      simpa using this
    · simp only [List.mem_cons, List.not_mem_nil, or_false] at hp
      subst hp
      exact ⟨sa, sc, rfl, hR2.fr hfr (fun _ => rfl) (by omega) (fun _ _ h => h), hb2⟩
  have HM := Lib.hid (Masks_c _ a n c s (some ⟨w.heap.size + 1, 0, none⟩) 1 1 _ hs (hR.fr hfr (fun _ => rfl) (by omega) (fun _ _ h => h)) hb rfl (by decide) hst)
  subst hc0
  clear hst hcs
  go_enter Tryz.func5, Tryz.ntmps5
  go_upto_region 2 with (go_at_call 9; go_must (refine HM.out.mono ?_; rintro e w1 ⟨oa, oc, ts, rfl, hoc, hRo, htl, hnew, hT, hf1⟩))
  have hFw1 : Fr Non w w1 := hfr.andThen hf1
  clear hf1 HM hfr
  obtain ⟨ch, l, la, lc, rfl, hll, hRl, hnl, hvl, hchl⟩ := one_told hT
  obtain ⟨blk, off, rfl, hcell⟩ := hRo (by simp)
  have hc0 := hcell 0 (by simp) 0 (by omega)
  have hc1 := hcell 0 (by simp) 1 (by omega)
  simp only [encT, List.getElem_cons_zero, List.getElem?_cons_zero, List.getElem?_cons_succ, Nat.add_zero, Nat.zero_mul] at hc0 hc1
  have hlenl := keys_len hnl
  have Hvl := Lib.hid hvl
  have Hch := Lib.hid hchl
  clear hcell hRo hT htl hnew hvl hchl
  go_upto_region 4 with fail
  go_region_with (go_at_call 8; go_must (refine (Tidy_c _ la l.length lc l rfl (hRl.fr ((Fr.refl Non w1).drew) (fun _ => rfl) (by omega) (fun _ _ h => h)) hlenl).mono ?_; rintro e w3 ⟨v, o, rfl, ⟨oa1, oc1, rfl, ho1, hoR1, _⟩, T1, M1, hf3⟩; have hd0 := hf3.cell (p := ⟨blk, off, none⟩) hc0 (fun h => h); have hd1 := hf3.cell (p := ⟨blk, off + 1, none⟩) hc1 (fun h => h)))
  all_goals go_wp2
  all_goals go_ret3
  all_goals exact ⟨ch, o, oa1, oc1, rfl, ho1, hoR1, ⟨T1, fun k => by rw [M1, ofL_self hnl, Hvl.out], Hch.out⟩, hFw1.andThen (((Fr.refl Non w1).drew).andThen hf3)⟩

end Go.Proofs.YtglamkopjjimjaaGreat
