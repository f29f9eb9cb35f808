/- impl.Difference. -/
import Derived.Test.YtpimncafdalndaaGreatFPlain
import Derived.Deep.Cut
set_option linter.unusedVariables false
set_option linter.unusedSimpArgs false
namespace Go.Proofs.YtpimncafdalndaaGreat
open Go.RowKit

theorem mask_perm {l m : LM} (h : l.Perm m) (hm : (keys m).Nodup) (k : BitVec 32) : maskOf k l = maskOf k m := by
  have hl : (keys l).Nodup := (h.map _).nodup_iff.2 hm
  unfold maskOf getZ
  congr 1
  cases e : look k m with
  | none => exact look_none.2 (fun hk => look_none.1 e ((h.map _).mem_iff.1 hk))
  | some v => exact mem_look hl (h.mem_iff.2 (look_mem e))

theorem foldl_mask : ∀ (l acc : LM), (keys l).Nodup → ∀ k, maskOf k (l.foldl (fun s x => put x.1 x.2 s) acc) = if k ∈ keys l then maskOf k l else maskOf k acc
  | [], acc, _, k => by simp [keys]
  | (a, v) :: l, acc, h, k => by
    have hn : (a :: keys l).Nodup := h
    rw [List.foldl_cons, foldl_mask l _ (List.nodup_cons.1 hn).2 k]
    have ha := (List.nodup_cons.1 hn).1
    have e : maskOf k (put a v acc) = if k = a then v else maskOf k acc := getZ_put 0#16 a k v acc
    have e2 : maskOf k ((a, v) :: l) = if k = a then v else maskOf k l := by simp only [maskOf, getZ, look]; split <;> rfl
    have e3 : k ∈ keys ((a, v) :: l) ↔ k = a ∨ k ∈ keys l := by show k ∈ a :: keys l ↔ _; simp
    simp only [e, e2, e3]
    by_cases h1 : k = a
    · subst h1; simp [ha]
    · simp [h1]

/-- of a list with no number twice the parts are its own -/
theorem ofL_self {l : LM} (h : (keys l).Nodup) (k : BitVec 32) : maskOf k (ofL l) = maskOf k l := by
  unfold ofL
  rw [foldl_mask l [] h k]
  split
  · rfl
  · rename_i hk; unfold maskOf getZ; rw [look_none.2 hk]; rfl

set_option maxHeartbeats 1600000 in
theorem Difference_c (w : World) (a a2 : Option Addr) (n n2 c c2 : Nat) (s t : LM) (hn : s.length = n) (hn2 : t.length = n2) (hR : RdS w a 2 encL s) (hR2 : RdS w a2 2 encL t) (hb : n ≤ 4294967296) (hb2 : n2 ≤ 4294967296) :
    Calls Tryz.prog 5 #[.slice a n c, .slice a2 n2 c2] w fun e w' => ∃ v xs, e = .returned v ∧ SlV w' w.heap.size 2 encL v xs ∧ (keys xs).Nodup ∧ (∀ k, maskOf k xs = maskOf k (ofL s) &&& ~~~(maskOf k (ofL t))) ∧ Fr Non w w' := by
  go_enter Tryz.func5, Tryz.ntmps5
  go_upto_region 1 with fail
  refine wp_region_lit ?_
  refine wl_val (.slice a n c) rfl rfl ?_
  refine wl_call (ars := #[.slice a n c]) rfl rfl (enters Tryz.func9 (by kernel_rfl) rfl) rfl (masks_c w a n c s hn hR hb) ?_
  rintro e w1 ⟨b1, rfl, hb1, hS1, hf1⟩
  refine ⟨_, rfl, ?_⟩
  refine wl_val (.slice a2 n2 c2) rfl rfl ?_
  refine wl_call (ars := #[.slice a2 n2 c2]) rfl rfl (enters Tryz.func9 (by kernel_rfl) rfl) rfl (masks_c w1 a2 n2 c2 t hn2 (hR2.fr hf1 (fun _ => rfl) (by omega) (fun _ _ h => h)) hb2) ?_
  rintro e w2 ⟨b2, rfl, hb2, hS2, hf2⟩
  refine ⟨_, rfl, ?_⟩
  refine wl_call (ars := #[.map (some b1), .map (some b2)]) rfl rfl (enters Tryz.func18 (by kernel_rfl) rfl) rfl (MDifference_c w2 b1 b2 (ofL s) (ofL t) (hS1.fr hf2 (fun h => h)) hS2) ?_
  rintro e w3 ⟨b3, rfl, hb3, ⟨s3, hS3, hv3⟩, hf3⟩
  refine ⟨_, rfl, ?_⟩
  refine wl_call (ars := #[.map (some b3)]) rfl rfl (enters Tryz.func17 (by kernel_rfl) rfl) rfl (plainMasks_c w3 b3 s3 hS3) ?_
  rintro e w4 ⟨v, xs, rfl, ⟨a4, c4, rfl, h41, h42, h43⟩, hp, hf4⟩
  refine ⟨_, rfl, ?_⟩
  go_frame
  go_wp2
  go_ret
  have hz1 := hf1.size
  have hz2 := hf2.size
  have hz3 := hf3.size
  exact ⟨_, xs, rfl, ⟨a4, c4, rfl, h41, h42, fun p hp => ⟨by have := (h43 p hp).1; omega, (h43 p hp).2⟩⟩, (hp.map _).nodup_iff.2 hS3.nodup, fun k => by rw [mask_perm hp hS3.nodup, hv3], ((hf1.andThen hf2).andThen hf3).andThen hf4⟩
end Go.Proofs.YtpimncafdalndaaGreat
