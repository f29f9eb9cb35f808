/- sort.Slice over a slice of entries of a mask set. -/
import Derived.Test.YtglamkopjjimjaaGreatFMask
import Derived.Test.YtglamkopjjimjaaGreatShelf6
import Derived.Deep.QuietTactic
set_option linter.unusedVariables false
set_option linter.unusedSimpArgs false
namespace Go.Proofs.YtglamkopjjimjaaGreat
open Go.RowKit Go.Shelf Go.Lib Go.Sort Go.Proofs

noncomputable def svT : TypeInfo := (Tryz.prog.info? 22).get (by kernel_rfl)
noncomputable def svE : TypeInfo := (Tryz.prog.info? 46).get (by kernel_rfl)
theorem svK0 : swapperK 0 svE 25 = 1 := by simp [swapperK]
theorem svK1 : swapperK 1 svE 25 = 2 := by simp [swapperK]
theorem svK (n : Nat) (h2 : 2 ≤ n) : swapperK n svE 25 = 5 := by
  have a : svE.hasPointers = false := by kernel_rfl
  have b : svE.bytes = 8 := by kernel_rfl
  have c : (n == 0) = false := by simp; omega
  have d : (n == 1) = false := by simp; omega
  simp [swapperK, a, b, c, d]

set_option maxHeartbeats 1000000 in
theorem insNone_c (lf : Fn) (la lb : Array Value) (f : Nat) (sb : Array Value) (n : Nat) (h : n ≤ 1) (w : World) :
    Calls Tryz.prog 62 #[.agg #[.func lf la lb, .func (.func f) #[] sb], .int .i64 0, .int .i64 n] w fun e w' => e = .returned (.tuple #[]) ∧ ∃ os, w' = grow w os := by
  go_enter Tryz.func62, Tryz.ntmps62
  go_wp2
  refine wp_loop_rounds 1 ?_
  rw [rounds_succ]
  go_wp2
  all_goals first | (exfalso; omega) | (go_end0; exact ⟨rfl, _, alloc_eq_grow _ _⟩)

set_option maxHeartbeats 1000000 in
theorem pdqTiny_c (lf : Fn) (la lb : Array Value) (f : Nat) (sb : Array Value) (n : Nat) (h : n ≤ 1) (lim : Int) (w : World) :
    Calls Tryz.prog 43 #[.agg #[.func lf la lb, .func (.func f) #[] sb], .int .i64 0, .int .i64 n, .int .i64 lim] w fun e w' => e = .returned (.tuple #[]) ∧ ∃ os, w' = grow w os := by
  go_enter Tryz.func43, Tryz.ntmps43
  go_wp2
  refine wp_loop_rounds 1 ?_
  rw [rounds_succ]
  go_wp2_with (go_at_call 62; refine (insNone_c lf la lb f sb n h _).mono ?_; rintro e w' ⟨rfl, os, rfl⟩)
  refine bodyPost_ret (results_none rfl _ _ _) rfl ?_
  exact ⟨rfl, _, by rw [alloc_eq_grow, grow_grow]⟩

/-- no entry, or one -/
theorem sortTiny_c (p : Option Addr) (n c : Nat) (h : n ≤ 1) (lf : Fn) (la lb : Array Value) (w : World) :
    Calls Tryz.prog 31 #[.iface 22 (.slice p n c), .func lf la lb] w fun e w' => e = .returned (.tuple #[]) ∧ ∃ os, w' = grow w os := by
  have key : ∀ f, Tryz.prog.funcs.findIdx? (·.name == "internal/reflectlite" ++ ".Swapper$" ++ toString (swapperK n svE 25)) = some f →
      Calls Tryz.prog 31 #[.iface 22 (.slice p n c), .func lf la lb] w fun e w' => e = .returned (.tuple #[]) ∧ ∃ os, w' = grow w os := fun f hf => by
    refine Any.sort_Slice_of_pdq (ρ := Tryz.laysGg6_ren) Tryz.laysGg6 22 46 svT svE (by kernel_rfl) (by kernel_rfl) (by kernel_rfl) (by kernel_rfl) 25 (fun _ => by kernel_rfl) p n c (by omega) f hf lf la lb w _ ?_
    refine (pdqTiny_c lf la lb f _ n h _ _).mono ?_
    rintro e w' ⟨rfl, os, rfl⟩
    exact ⟨rfl, _, by unfold sliceWorld; rw [alloc_eq_grow, alloc_eq_grow, grow_grow, grow_grow]⟩
  have hn : n = 0 ∨ n = 1 := by omega
  rcases hn with rfl | rfl
  · exact key 51 (by rw [svK0]; kernel_rfl)
  · exact key 52 (by rw [svK1]; kernel_rfl)

def ltID (a b : BitVec 32 × BitVec 16) : Bool := decide (a.1.toNat < b.1.toNat)
theorem swo_ltID : SWO ltID where
  irrefl := fun x => by simp [ltID]
  trans := fun x y z h1 h2 => by simp [ltID] at *; omega
  ntrans := fun x y z h1 h2 => by simp [ltID] at *; omega

set_option maxHeartbeats 1000000 in
/-- 'plainMasks''s own closure: by the numbers -/
theorem less_c (blk off c Bs size : Nat) (W : World) (G : Nat → Int) (hs : W.cell? ⟨Bs, 0, none⟩ = some (.slice (some ⟨blk, off, none⟩) size c))
    (hc : ∀ t, t < size → W.cell? ⟨blk, off + t * 2, none⟩ = some (.int .u32 (G t))) (i j : Nat) (hi : i < size) (hj : j < size) (_hsz : size < 4611686018427387904) :
    Calls Tryz.prog 32 #[.int .i64 i, .int .i64 j, .pointer (some ⟨Bs, 0, none⟩)] W fun e w' => e = .returned (.bool (decide (G i < G j))) ∧ ∃ q, w' = W.drewN q := by
  have ci := hc i hi
  have cj := hc j hj
  go_enter Tryz.func32, Tryz.ntmps32
  go_wp2
  go_quiet (fail)
  go_wp2
  go_ret
  exact ⟨rfl, nq, rfl⟩

instance : Inhabited (BitVec 32 × BitVec 16) := ⟨(0, 0)⟩

/-- two entries or more: what 'out' (a boxed slice at Bs) holds is put in order -/
theorem sortMore_c (blk off c Bs : Nat) (d : Array (BitVec 32 × BitVec 16)) (h2 : 2 ≤ d.size) (hsz : d.size < 4611686018427387904) (w : World) (hne : Bs ≠ blk) (hBs : Bs < w.heap.size) (hblk : blk < w.heap.size)
    (hs : w.cell? ⟨Bs, 0, none⟩ = some (.slice (some ⟨blk, off, none⟩) d.size c)) (hH : HoldsK encL 2 w blk off d) :
    Calls Tryz.prog 31 #[.iface 22 (.slice (some ⟨blk, off, none⟩) d.size c), .func (.func 32) #[] #[.pointer (some ⟨Bs, 0, none⟩)]] w fun e w' =>
      e = .returned (.tuple #[]) ∧ ∃ d' n os, PermIn 0 d.size d d' ∧ SortedIn ltID 0 d.size d' ∧ w' = grow (putRowK encL 2 (Sort.ahead w n) blk off d') os := by
  have hless : LessReadsK Tryz.prog 32 #[.pointer (some ⟨Bs, 0, none⟩)] encL 2 ltID blk off d.size w := by
    intro m os dk hs2 i j hi hj
    have e : sortWorldK encL 2 w blk off m dk os = putRowK encL 2 (grow (Sort.ahead w m) os) blk off dk := by
      unfold sortWorldK; rw [putRowK_grow _ _ (Sort.ahead w m) _ blk off _ hblk]
    have hHg : HoldsK encL 2 (grow (Sort.ahead w m) os) blk off d := holdsK_grow _ _ _ _ blk off d hblk (holdsK_ahead _ _ _ _ _ _ _ hH)
    refine less_c blk off c Bs d.size _ (fun t => (dk[t]!.1.toNat : Int)) ?_ (fun t ht => ?_) i j hi hj (by omega) |>.mono ?_
    · rw [e, cell?_putRowK_other _ _ _ blk off dk _ hne, cell?_grow _ _ _ (show Bs < (Sort.ahead w m).heap.size from hBs)]
      exact hs
    · rw [e]; exact ((holdsK_putRowK _ _ _ blk off d dk hHg hs2).cell (i := t) (c := 0) (by omega) (by omega)).1
    · rintro e w' ⟨rfl, h⟩
      exact ⟨by simp [ltID], h⟩
  have hS := Any.sort_Slice_cells_sorted (ρ := Tryz.laysGg6_ren) Tryz.laysGg6 22 46 svT svE (by kernel_rfl) (by kernel_rfl) (by kernel_rfl) (by kernel_rfl) 25 (fun _ => by kernel_rfl) encL 2 (fun _ => rfl) (by kernel_rfl) (fun _ => by kernel_rfl)
    (fun x v hv => by simp [encL] at hv; rcases hv with rfl | rfl <;> rfl) ltID swo_ltID 32 _
    (enters_of Tryz.func32 (by kernel_rfl) rfl) blk off c d h2 hsz 55 (by rw [svK _ h2]; kernel_rfl) true
    (fun args W => run_callFunc_extern Tryz.func55 (by kernel_rfl) (by kernel_rfl) (by kernel_rfl) (e := Extern.ReflectliteSwapper.swap true) (by kernel_rfl) args W) _ hless hH hblk
  exact hS

end Go.Proofs.YtglamkopjjimjaaGreat
