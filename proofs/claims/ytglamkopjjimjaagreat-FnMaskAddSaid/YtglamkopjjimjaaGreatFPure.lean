/- Plain facts on the parts that a list of entries has. -/
import Derived.Test.YtglamkopjjimjaaGreatFMask
set_option linter.unusedVariables false
set_option linter.unusedSimpArgs false
namespace Go.Proofs.YtglamkopjjimjaaGreat
open Go.RowKit

theorem mask_perm {l m : LM} (h : l.Perm m) (hm : (keys m).Nodup) (k : BitVec 32) : maskOf k l = maskOf k m := by
  have hl : (keys l).Nodup := (h.map _).nodup_iff.2 hm
  unfold maskOf getZ
  congr 1
  cases e : look k m with
  | none => exact look_none.2 (fun hk => look_none.1 e ((h.map _).mem_iff.1 hk))
  | some v => exact mem_look hl (h.mem_iff.2 (look_mem e))

theorem foldl_mask : ∀ (l acc : LM), (keys l).Nodup → ∀ k, maskOf k (l.foldl (fun s x => put x.1 x.2 s) acc) = if k ∈ keys l then maskOf k l else maskOf k acc
  | [], acc, _, k => by simp [keys]
  | (a, v) :: l, acc, h, k => by
    have hn : (a :: keys l).Nodup := h
    rw [List.foldl_cons, foldl_mask l _ (List.nodup_cons.1 hn).2 k]
    have ha := (List.nodup_cons.1 hn).1
    have e : maskOf k (put a v acc) = if k = a then v else maskOf k acc := getZ_put 0#16 a k v acc
    have e2 : maskOf k ((a, v) :: l) = if k = a then v else maskOf k l := by simp only [maskOf, getZ, look]; split <;> rfl
    have e3 : k ∈ keys ((a, v) :: l) ↔ k = a ∨ k ∈ keys l := by show k ∈ a :: keys l ↔ _; simp
    simp only [e, e2, e3]
    by_cases h1 : k = a
    · subst h1; simp [ha]
    · simp [h1]

/-- of a list with no number twice the parts are its own -/
theorem ofL_self {l : LM} (h : (keys l).Nodup) (k : BitVec 32) : maskOf k (ofL l) = maskOf k l := by
  unfold ofL
  rw [foldl_mask l [] h k]
  split
  · rfl
  · rename_i hk; unfold maskOf getZ; rw [look_none.2 hk]; rfl

end Go.Proofs.YtglamkopjjimjaaGreat
