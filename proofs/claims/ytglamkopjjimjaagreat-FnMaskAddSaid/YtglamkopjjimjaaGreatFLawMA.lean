/- The law FnMaskAdd, walked. -/
import Derived.Test.YtglamkopjjimjaaGreatFStepped
set_option linter.unusedVariables false
set_option linter.unusedSimpArgs false
namespace Go.Proofs.YtglamkopjjimjaaGreat
open Go.RowKit

set_option maxRecDepth 100000 in
set_option maxHeartbeats 4000000 in
theorem FnMaskAdd_c (w : World) (a : Option Addr) (n c : Nat) (s : LM) (id : BitVec 32) (mask : BitVec 16) (hs : s.length = n) (hR : RdS w a 2 encL s) :
    Calls Tryz.prog 3 #[.slice a n c, u32v id, u16v mask] w fun e w' => e = .returned (.bool true) ∧ Fr Non w w' := by
  by_cases b1 : n ≤ 2000
  · have HS := Lib.hid (stepped_c w a n c s ⟨0, id, mask, ⟨false, 0#8, 0#16, 0#16⟩, .slice none 0 0⟩ [] none 0 hs hR (by omega) rfl (RdS.nil _ _ _ _) (by decide)
      (fun w' blk off hf hst => sMasksAdd_c w' a n c s ⟨0, id, mask, ⟨false, 0#8, 0#16, 0#16⟩, .slice none 0 0⟩ [] blk off none 0 0 rfl rfl hs (hR.fr hf (fun _ => rfl) (by omega) (fun _ _ h => h)) (by omega) hst))
    clear hs hR
    go_enter Tryz.func3, Tryz.ntmps3
    go_wp2_with (go_at_call 4; go_must (refine HS.out.mono ?_; rintro e w1 ⟨rfl, hf1⟩))
    go_ret
    exact ⟨rfl, hf1⟩
  · by_cases b2 : n ≤ 2147483647
    · go_enter Tryz.func3, Tryz.ntmps3
      go_wp2
      go_ret
      exact ⟨rfl, Fr.refl _ _⟩
    · go_enter Tryz.func3, Tryz.ntmps3
      go_wp2
      go_ret
      exact ⟨rfl, Fr.refl _ _⟩

end Go.Proofs.YtglamkopjjimjaaGreat
