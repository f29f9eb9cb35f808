/- laws.stepped: one step does what the reference says. -/
import Derived.Test.YtglamkopjjimjaaGreatFSMaskA
set_option linter.unusedVariables false
set_option linter.unusedSimpArgs false
namespace Go.Proofs.YtglamkopjjimjaaGreat
open Go.RowKit

set_option maxRecDepth 100000 in
set_option maxHeartbeats 4000000 in
theorem stepped_c (w : World) (a : Option Addr) (n c : Nat) (s : LM) (x : Step) (xs : LM) (sa : Option Addr) (sc : Nat) (hs : s.length = n) (hR : RdS w a 2 encL s) (hb : n ≤ 2147483647) (hx : x.set = .slice sa xs.length sc) (hR2 : RdS w sa 2 encL xs) (hb2 : xs.length ≤ 2147483647)
    (hSpec : ∀ w' blk off, Fr Non w w' → (∀ j u, (encStep x)[j]? = some u → w'.cell? ⟨blk, off + j, none⟩ = some u) → Calls Tryz.prog 6 #[.slice a n c, .slice (some ⟨blk, off, none⟩) 1 1] w' fun e w'' => ToldOne w' w'' x xs s e) :
    Calls Tryz.prog 4 #[.slice a n c, .agg #[.int .i64 x.dop, u32v x.id, u16v x.mask, .bool x.reg.virt, u8v x.reg.kind, u16v x.reg.idx, u16v x.reg.spec, .slice sa xs.length sc]] w fun e w' => e = .returned (.bool true) ∧ Fr Non w w' := by
  have hfr : Fr Non w (w.alloc (.cells #[.int .i64 x.dop, u32v x.id, u16v x.mask, .bool x.reg.virt, u8v x.reg.kind, u16v x.reg.idx, u16v x.reg.spec, .slice sa xs.length sc] 29)) := (Fr.refl _ _).alloc _
  have HS := Lib.hid (step_c _ a n c s x xs sa sc hs (hR.fr hfr (fun _ => rfl) (by omega) (fun _ _ h => h)) (by omega) hx (hR2.fr hfr (fun _ => rfl) (by omega) (fun _ _ h => h)) (by omega))
  have HSpec := Lib.hid hSpec
  have HX := Lib.hid hx
  clear hs hx hSpec
  have hcell : ∀ w', Fr Non (w.alloc (.cells #[.int .i64 x.dop, u32v x.id, u16v x.mask, .bool x.reg.virt, u8v x.reg.kind, u16v x.reg.idx, u16v x.reg.spec, .slice sa xs.length sc] 29)) w' → w'.heap[w.heap.size]? = some (.cells #[.int .i64 x.dop, u32v x.id, u16v x.mask, .bool x.reg.virt, u8v x.reg.kind, u16v x.reg.idx, u16v x.reg.spec, .slice sa xs.length sc] 29) := fun w' hf => (hf.block _ (by simp) (fun h => h)).trans (heap_alloc_new w _)
  have Hcell := Lib.hid hcell
  clear hcell
  generalize hd : x.dop = d at *
  go_enter Tryz.func4, Tryz.ntmps4
  go_upto_region 2 with (go_at_call 5; go_must (refine HS.out.mono ?_; rintro e w1 ⟨ch, out, oa, oc, rfl, ho1, ho2, ho3, hf1⟩))
  have hFw1 := hfr.andThen hf1
  have hblk := Hcell.out w1 hf1
  have e0 : w1.cell? ⟨w.heap.size, 0, none⟩ = some (.int .i64 d) := by simp [World.cell?, hblk]
  have e1 : w1.cell? ⟨w.heap.size, 1, none⟩ = some (u32v x.id) := by simp [World.cell?, hblk]
  have e2 : w1.cell? ⟨w.heap.size, 2, none⟩ = some (u16v x.mask) := by simp [World.cell?, hblk]
  have e3 : w1.cell? ⟨w.heap.size, 3, none⟩ = some (.bool x.reg.virt) := by simp [World.cell?, hblk]
  have e4 : w1.cell? ⟨w.heap.size, 4, none⟩ = some (u8v x.reg.kind) := by simp [World.cell?, hblk]
  have e5 : w1.cell? ⟨w.heap.size, 5, none⟩ = some (u16v x.reg.idx) := by simp [World.cell?, hblk]
  have e6 : w1.cell? ⟨w.heap.size, 6, none⟩ = some (u16v x.reg.spec) := by simp [World.cell?, hblk]
  have e7 : w1.cell? ⟨w.heap.size, 7, none⟩ = some (.slice sa xs.length sc) := by simp [World.cell?, hblk]
  have hA : Fr Non w1 (w1.alloc (.cells #[.int .i64 d, u32v x.id, u16v x.mask, .bool x.reg.virt, u8v x.reg.kind, u16v x.reg.idx, u16v x.reg.spec, .slice sa xs.length sc] 29)) := (Fr.refl _ _).alloc _
  have HM := Lib.hid (HSpec.out (w1.alloc (.cells #[.int .i64 d, u32v x.id, u16v x.mask, .bool x.reg.virt, u8v x.reg.kind, u16v x.reg.idx, u16v x.reg.spec, .slice sa xs.length sc] 29)) w1.heap.size 0 (hFw1.andThen hA) (fun j u hj => by
    have hb2 : (w1.alloc (.cells #[.int .i64 d, u32v x.id, u16v x.mask, .bool x.reg.virt, u8v x.reg.kind, u16v x.reg.idx, u16v x.reg.spec, .slice sa xs.length sc] 29)).heap[w1.heap.size]? = some _ := heap_alloc_new w1 _
    simp only [World.cell?, hb2, Option.isSome_none, Bool.false_eq_true, if_false, Nat.zero_add]
    rw [← hj]
    simp [encStep, HX.out, hd]))
  clear hblk HSpec
  go_upto_region 3 with (go_at_call 6; go_must (refine HM.out.mono ?_; rintro e w2 ⟨tb, to, tc, ch2, out2, pa, pc, rfl, ht1, ht2, ht3, ht4, hf2⟩; obtain ⟨rfl, rfl⟩ := Turned.det ho3 ht4 (fun _ => rfl)))
  have hlen := tidy_len ho3.1
  have T3 := ho3.1
  clear HM e0 e1 e2 e3 e4 e5 e6 e7
  have hFw2 := (hFw1.andThen hA).andThen hf2
  have Q1 := Lib.hid (Eq.refl 1)
  have Q2 := Lib.hid (Eq.refl 2)
  have hbb : (ch == ch) = true := by simp
  go_wp2_with (first
    | (go_at_call 8; clear Q1; go_must (refine (Tidy_c _ pa _ pc out rfl ht3 hlen).mono ?_; rintro e w3 ⟨v3, o3, rfl, ⟨oa3, oc3, rfl, h31, h32, _⟩, T4, M4, hf3⟩))
    | (go_at_call 7; clear Q2; go_must (refine (SameLive_c _ oa oa3 _ _ oc oc3 out o3 rfl rfl ((ho2.fr (hA.andThen hf2) (fun _ => rfl) (by omega) (fun _ _ h => h)).fr hf3 (fun _ => rfl) (by omega) (fun _ _ h => h)) h32 hlen (tidy_len T4)).mono ?_; rintro e w4 ⟨rfl, hf4⟩; rw [show decide (out = o3) = true from decide_eq_true (tidy_ext T3 T4 (fun k => by rw [M4, ofL_self T3.nodup]))])))
  go_ret
  exact ⟨rfl, (hFw2.andThen hf3).andThen hf4⟩

end Go.Proofs.YtglamkopjjimjaaGreat
