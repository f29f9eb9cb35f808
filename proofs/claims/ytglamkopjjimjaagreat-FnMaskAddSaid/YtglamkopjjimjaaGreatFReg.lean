/- The registers of the package: how they stand in memory, their numbers and masks, the families. -/
import Derived.Test.YtglamkopjjimjaaGreatProg
import Derived.Test.YtglamkopjjimjaaGreatBase
set_option linter.unusedVariables false
set_option linter.unusedSimpArgs false
namespace Go.Proofs.YtglamkopjjimjaaGreat
open Go.RowKit

/-! ### Registers as values -/
def virtV (k : BitVec 8) (i s : BitVec 16) : Value := .iface 106 (.agg #[u16v i, u8v k, u16v s])
def regVirt (k : BitVec 8) (i s : BitVec 16) : Value :=
  if k = 1#8 then .iface 108 (.agg #[virtV k i s]) else if k = 2#8 then .iface 112 (.agg #[virtV k i s, .nilIface]) else if k = 3#8 then .iface 113 (.agg #[virtV k i s]) else virtV k i s

theorem NewVirtual_c (w : World) (k : BitVec 8) (i s : BitVec 16) : Calls Tryz.prog 33 #[u16v i, u8v k, u16v s] w fun e w' => e = .returned (virtV k i s) ∧ w = w' := by
  go_enter Tryz.func33, Tryz.ntmps33
  go_wp2
  go_ret
  exact ⟨rfl, rfl⟩
theorem newgpv_c (w : World) (t : TypeId) (v : Value) : Calls Tryz.prog 34 #[.iface t v] w fun e w' => e = .returned (.iface 108 (.agg #[.iface t v])) ∧ w = w' := by
  go_enter Tryz.func34, Tryz.ntmps34
  go_wp2
  go_ret
  exact ⟨rfl, rfl⟩

theorem newvecv_c (w : World) (t : TypeId) (v : Value) : Calls Tryz.prog 35 #[.iface t v] w fun e w' => e = .returned (.iface 112 (.agg #[.iface t v, .nilIface])) ∧ w = w' := by
  go_enter Tryz.func35, Tryz.ntmps35
  go_wp2
  go_ret
  exact ⟨rfl, rfl⟩
theorem newopmaskv_c (w : World) (t : TypeId) (v : Value) : Calls Tryz.prog 36 #[.iface t v] w fun e w' => e = .returned (.iface 113 (.agg #[.iface t v])) ∧ w = w' := by
  go_enter Tryz.func36, Tryz.ntmps36
  go_wp2
  go_ret
  exact ⟨rfl, rfl⟩
theorem newgpp_c (w : World) (t : TypeId) (v : Value) : Calls Tryz.prog 46 #[.iface t v] w fun e w' => e = .returned (.iface 149 (.agg #[.iface t v])) ∧ w = w' := by
  go_enter Tryz.func46, Tryz.ntmps46
  go_wp2
  go_ret
  exact ⟨rfl, rfl⟩
theorem newvecp_c (w : World) (t : TypeId) (v : Value) : Calls Tryz.prog 48 #[.iface t v] w fun e w' => e = .returned (.iface 151 (.agg #[.iface t v, .nilIface])) ∧ w = w' := by
  go_enter Tryz.func48, Tryz.ntmps48
  go_wp2
  go_ret
  exact ⟨rfl, rfl⟩
theorem newopmaskp_c (w : World) (t : TypeId) (v : Value) : Calls Tryz.prog 49 #[.iface t v] w fun e w' => e = .returned (.iface 152 (.agg #[.iface t v])) ∧ w = w' := by
  go_enter Tryz.func49, Tryz.ntmps49
  go_wp2
  go_ret
  exact ⟨rfl, rfl⟩

set_option maxHeartbeats 400000 in
theorem ZZVirtual_c (w : World) (k : BitVec 8) (i s : BitVec 16) : Calls Tryz.prog 29 #[u8v k, u16v i, u16v s] w fun e w' => e = .returned (regVirt k i s) ∧ w = w' := by
  by_cases h1 : (k == 1#8) = true
  · have e1 : regVirt k i s = .iface 108 (.agg #[virtV k i s]) := by unfold regVirt; rw [if_pos (by simpa using h1)]
    rw [e1]; unfold virtV
    clear e1
    go_enter Tryz.func29, Tryz.ntmps29
    go_wp2_with (first | (go_at_call 33; refine (NewVirtual_c _ _ _ _).mono ?_; rintro e w' ⟨rfl, rfl⟩; unfold virtV) | (go_at_call 34; refine (newgpv_c _ _ _).mono ?_; rintro e w' ⟨rfl, rfl⟩))
    go_ret
    exact ⟨rfl, rfl⟩
  · have h1' : (k == 1#8) = false := by simpa using h1
    have k1 : ¬ k = 1#8 := by simpa using h1
    clear h1
    by_cases h2 : (k == 2#8) = true
    · have e1 : regVirt k i s = .iface 112 (.agg #[virtV k i s, .nilIface]) := by unfold regVirt; rw [if_neg k1, if_pos (by simpa using h2)]
      rw [e1]; unfold virtV
      clear e1 k1
      go_enter Tryz.func29, Tryz.ntmps29
      go_wp2_with (first | (go_at_call 33; refine (NewVirtual_c _ _ _ _).mono ?_; rintro e w' ⟨rfl, rfl⟩; unfold virtV) | (go_at_call 35; refine (newvecv_c _ _ _).mono ?_; rintro e w' ⟨rfl, rfl⟩))
      go_ret
      exact ⟨rfl, rfl⟩
    · have h2' : (k == 2#8) = false := by simpa using h2
      have k2 : ¬ k = 2#8 := by simpa using h2
      clear h2
      by_cases h3 : (k == 3#8) = true
      · have e1 : regVirt k i s = .iface 113 (.agg #[virtV k i s]) := by unfold regVirt; rw [if_neg k1, if_neg k2, if_pos (by simpa using h3)]
        rw [e1]; unfold virtV
        clear e1 k1 k2
        go_enter Tryz.func29, Tryz.ntmps29
        go_wp2_with (first | (go_at_call 33; refine (NewVirtual_c _ _ _ _).mono ?_; rintro e w' ⟨rfl, rfl⟩; unfold virtV) | (go_at_call 36; refine (newopmaskv_c _ _ _).mono ?_; rintro e w' ⟨rfl, rfl⟩))
        go_ret
        exact ⟨rfl, rfl⟩
      · have h3' : (k == 3#8) = false := by simpa using h3
        have e1 : regVirt k i s = virtV k i s := by unfold regVirt; rw [if_neg k1, if_neg k2, if_neg (by simpa using h3)]
        rw [e1]; unfold virtV
        clear e1 k1 k2 h3
        go_enter Tryz.func29, Tryz.ntmps29
        go_wp2_with (go_at_call 33; refine (NewVirtual_c _ _ _ _).mono ?_; rintro e w' ⟨rfl, rfl⟩; unfold virtV)
        go_ret
        exact ⟨rfl, rfl⟩

/-! ### The physical ones -/
def physV (f : Addr) (i : BitVec 16) (nm : ByteArray) (info : BitVec 8) (s : BitVec 16) : Value := .iface 124 (.agg #[.pointer (some f), u16v i, .string nm, u8v info, u16v s])
def regPhys (k : BitVec 8) (f : Addr) (i : BitVec 16) (nm : ByteArray) (info : BitVec 8) (s : BitVec 16) : Value :=
  if k = 1#8 then .iface 149 (.agg #[physV f i nm info s]) else if k = 2#8 then .iface 151 (.agg #[physV f i nm info s, .nilIface]) else if k = 3#8 then .iface 152 (.agg #[physV f i nm info s]) else physV f i nm info s

/-- a register's number -/
def ridOf (v : BitVec 8) (k : BitVec 8) (i : BitVec 16) : BitVec 32 := v.setWidth 32 ||| (k.setWidth 32 <<< 8) ||| (i.setWidth 32 <<< 16)

theorem u32_or_nat (a b : Nat) (ha : a < 4294967296) (hb : b < 4294967296) : bits .or .u32 (a : Int) (b : Int) = ((a ||| b : Nat) : Int) := by
  refine bits_nat .u32 32 (by decide) (fun n h0 h1 => by rw [IntKind.wrap_u32]; omega) a b (by omega) (by omega) |>.2
theorem rid_num (v k : BitVec 8) (i : BitVec 16) : bits .or .u32 (bits .or .u32 (v.toNat : Int) ((k.toNat : Int) * 256)) ((i.toNat : Int) * 65536) = ((ridOf v k i).toNat : Int) := by
  have h1 := v.isLt
  have h2 := k.isLt
  have h3 := i.isLt
  have e1 : (k.toNat : Int) * 256 = ((k.toNat * 256 : Nat) : Int) := by omega
  have e2 : (i.toNat : Int) * 65536 = ((i.toNat * 65536 : Nat) : Int) := by omega
  have hor : v.toNat ||| k.toNat * 256 < 4294967296 := Nat.or_lt_two_pow (n := 32) (by omega) (by omega)
  rw [e1, e2, u32_or_nat _ _ (by omega) (by omega), u32_or_nat _ _ hor (by omega)]
  unfold ridOf
  rw [BitVec.toNat_or, BitVec.toNat_or, BitVec.toNat_shiftLeft, BitVec.toNat_shiftLeft, BitVec.toNat_setWidth, BitVec.toNat_setWidth, BitVec.toNat_setWidth]
  have a1 : v.toNat % 2 ^ 32 = v.toNat := Nat.mod_eq_of_lt (by omega)
  have a2 : (k.toNat % 2 ^ 32) <<< 8 % 2 ^ 32 = k.toNat * 256 := by rw [Nat.shiftLeft_eq]; omega
  have a3 : (i.toNat % 2 ^ 32) <<< 16 % 2 ^ 32 = i.toNat * 65536 := by rw [Nat.shiftLeft_eq]; omega
  rw [a1, a2, a3]

set_option maxHeartbeats 400000 in
theorem newid_c (w : World) (v k : BitVec 8) (i : BitVec 16) : Calls Tryz.prog 106 #[u8v v, u8v k, u16v i] w fun e w' => e = .returned (u32v (ridOf v k i)) ∧ w = w' := by
  have h1 := v.isLt
  have h2 := k.isLt
  have h3 := i.isLt
  have hn := rid_num v k i
  unfold u8v u16v u32v
  rw [← hn]
  clear hn
  go_enter Tryz.func106, Tryz.ntmps106
  go_wp2
  go_ret
  exact ⟨rfl, rfl⟩

theorem SpecMask_c (w : World) (s : BitVec 16) : Calls Tryz.prog 50 #[u16v s] w fun e w' => e = .returned (u16v s) ∧ w = w' := by
  go_enter Tryz.func50, Tryz.ntmps50
  go_wp2
  go_ret
  exact ⟨rfl, rfl⟩

set_option maxHeartbeats 400000 in
theorem vID_c (w : World) (k : BitVec 8) (i s : BitVec 16) : Calls Tryz.prog 100 #[.agg #[u16v i, u8v k, u16v s]] w fun e w' => e = .returned (u32v (ridOf 1#8 k i)) ∧ Fr Non w w' := by
  have h1 : Value.int .u8 1 = u8v 1#8 := rfl
  go_enter Tryz.func100, Tryz.ntmps100
  go_wp2_with (go_at_call 106; refine (newid_c _ _ _ _).mono ?_; rintro e w' ⟨rfl, rfl⟩)
  go_ret
  exact ⟨rfl, (Fr.refl _ _).alloc _⟩
theorem vKind_c (w : World) (k : BitVec 8) (i s : BitVec 16) : Calls Tryz.prog 101 #[.agg #[u16v i, u8v k, u16v s]] w fun e w' => e = .returned (u8v k) ∧ Fr Non w w' := by
  go_enter Tryz.func101, Tryz.ntmps101
  go_wp2
  go_ret
  exact ⟨rfl, (Fr.refl _ _).alloc _⟩
theorem rKind_c (w : World) (f : Nat) (k : BitVec 8) (i : BitVec 16) (nm : ByteArray) (info : BitVec 8) (s : BitVec 16) (hk : w.cell? ⟨f, 0, none⟩ = some (u8v k)) :
    Calls Tryz.prog 119 #[.agg #[.pointer (some ⟨f, 0, none⟩), u16v i, .string nm, u8v info, u16v s]] w fun e w' => e = .returned (u8v k) ∧ Fr Non w w' := by
  have hlt := World.block_lt_of_cell? w _ hk
  go_enter Tryz.func119, Tryz.ntmps119
  go_wp2
  go_ret
  exact ⟨rfl, (Fr.refl _ _).alloc _⟩
theorem rIndex_c (w : World) (f : Option Addr) (i : BitVec 16) (nm : ByteArray) (info : BitVec 8) (s : BitVec 16) :
    Calls Tryz.prog 120 #[.agg #[.pointer f, u16v i, .string nm, u8v info, u16v s]] w fun e w' => e = .returned (u16v i) ∧ Fr Non w w' := by
  go_enter Tryz.func120, Tryz.ntmps120
  go_wp2
  go_ret
  exact ⟨rfl, (Fr.refl _ _).alloc _⟩

set_option maxHeartbeats 800000 in
theorem rID_c (w : World) (f : Nat) (k : BitVec 8) (i : BitVec 16) (nm : ByteArray) (info : BitVec 8) (s : BitVec 16) (hk : w.cell? ⟨f, 0, none⟩ = some (u8v k)) :
    Calls Tryz.prog 117 #[.agg #[.pointer (some ⟨f, 0, none⟩), u16v i, .string nm, u8v info, u16v s]] w fun e w' => e = .returned (u32v (ridOf 0#8 k i)) ∧ Fr Non w w' := by
  have hlt := World.block_lt_of_cell? w _ hk
  go_enter Tryz.func117, Tryz.ntmps117
  go_wp2
  have hW : ∃ W, W = w.alloc (.cells #[.pointer (some ⟨f, 0, none⟩), u16v i, .string nm, u8v info, u16v s] 124) := ⟨_, rfl⟩
  obtain ⟨W, hW⟩ := hW
  rw [← hW]
  have hF : Fr Non w W := by rw [hW]; exact (Fr.refl _ _).alloc _
  have c0 : W.cell? ⟨w.heap.size, 0, none⟩ = some (.pointer (some ⟨f, 0, none⟩)) := by rw [hW]; simp
  have c1 : W.cell? ⟨w.heap.size, 1, none⟩ = some (u16v i) := by rw [hW]; simp
  have c2 : W.cell? ⟨w.heap.size, 2, none⟩ = some (.string nm) := by rw [hW]; simp
  have c3 : W.cell? ⟨w.heap.size, 3, none⟩ = some (u8v info) := by rw [hW]; simp
  have c4 : W.cell? ⟨w.heap.size, 4, none⟩ = some (u16v s) := by rw [hW]; simp
  have hk1 := hF.cell hk (fun h => h)
  clear hW
  refine wp_region_quiet (C := Fr Non W) (by kernel_rfl) (by kernel_rfl) ((Fr.refl Non W).drew) ?_
  refine wq_val (.agg #[.pointer (some ⟨f, 0, none⟩), u16v i, .string nm, u8v info, u16v s]) rfl (fun X hX => ?_) ?_
  · have d0 := hX.cell c0 (fun h => h)
    have d1 := hX.cell c1 (fun h => h)
    have d2 := hX.cell c2 (fun h => h)
    have d3 := hX.cell c3 (fun h => h)
    have d4 := hX.cell c4 (fun h => h)
    go_simp
  refine wq_call (u8v k) rfl (fun X hX => ⟨119, #[.agg #[.pointer (some ⟨f, 0, none⟩), u16v i, .string nm, u8v info, u16v s]], exec_call rfl rfl (enters Tryz.func119 (by kernel_rfl) rfl) X rfl, ?_⟩) ?_
  · exact (rKind_c X f k i nm info s (hX.cell hk1 (fun h => h))).mono fun e w'' ⟨he, hf⟩ => ⟨he, hX.andThen hf⟩
  refine wq_val (.pointer (some ⟨w.heap.size, 1, none⟩)) rfl (fun X hX => by go_simp) ?_
  refine wq_val (u16v i) rfl (fun X hX => by have d1 := hX.cell c1 (fun h => h); go_simp) ?_
  refine wq_call (u32v (ridOf 0#8 k i)) rfl (fun X hX => ⟨106, #[u8v 0#8, u8v k, u16v i], exec_call rfl rfl (enters Tryz.func106 (by kernel_rfl) rfl) X rfl, ?_⟩) ?_
  · exact (newid_c X 0#8 k i).mono fun e w'' ⟨he, hf⟩ => ⟨he, hf ▸ hX⟩
  refine wq_val (u32v (ridOf 0#8 k i)) rfl (fun X hX => rfl) (wpQuiet_nil ?_)
  intro X hX
  go_frame
  go_wp2
  go_ret
  exact ⟨rfl, hF.andThen hX⟩

/-! ### A register, and what its methods come to -/
structure Rg where
  virt : Bool
  kind : BitVec 8
  idx : BitVec 16
  spec : BitVec 16
  deriving DecidableEq

def ridR (r : Rg) : BitVec 32 := ridOf (if r.virt then 1#8 else 0#8) r.kind r.idx
/-- the value v is the register r (a physical one: of some family of its kind) -/
def RegV (w : World) (r : Rg) (v : Value) : Prop :=
  if r.virt then v = regVirt r.kind r.idx r.spec else ∃ f nm info, v = regPhys r.kind ⟨f, 0, none⟩ r.idx nm info r.spec ∧ w.cell? ⟨f, 0, none⟩ = some (u8v r.kind)

theorem RegV.fr {S : Nat → Prop} {w w' : World} {r : Rg} {v : Value} (h : RegV w r v) (hf : Fr S w w') (hS : ∀ i, S i → ∀ u, w.cell? ⟨i, 0, none⟩ ≠ some (u8v u)) : RegV w' r v := by
  unfold RegV at *
  split
  · rename_i hv; rw [if_pos hv] at h; exact h
  · rename_i hv; rw [if_neg hv] at h
    obtain ⟨f, nm, info, h1, h2⟩ := h
    exact ⟨f, nm, info, h1, hf.cell h2 (fun s => hS f s _ h2)⟩
theorem RegV.non {w w' : World} {r : Rg} {v : Value} (h : RegV w r v) (hf : Fr Non w w') : RegV w' r v := h.fr hf (fun _ s => s.elim)

theorem cm_gpv_ID (x y z : Value) (w : World) : (callMethod (.iface 108 (.agg #[.iface 106 (.agg #[x, y, z])])) "ID" #[]).run Tryz.prog w = .ok (.enter 100 #[.agg #[x, y, z]]) w := by kernel_rfl
theorem cm_gpv_Mask (x y : Value) (z : BitVec 16) (w : World) : (callMethod (.iface 108 (.agg #[.iface 106 (.agg #[x, y, u16v z])])) "Mask" #[]).run Tryz.prog w = .ok (.enter 50 #[u16v z]) w := by kernel_rfl
theorem cm_gpv_Kind (x y z : Value) (w : World) : (callMethod (.iface 108 (.agg #[.iface 106 (.agg #[x, y, z])])) "Kind" #[]).run Tryz.prog w = .ok (.enter 101 #[.agg #[x, y, z]]) w := by kernel_rfl
theorem cm_vecv_ID (x y z : Value) (u : Value) (w : World) : (callMethod (.iface 112 (.agg #[.iface 106 (.agg #[x, y, z]), u])) "ID" #[]).run Tryz.prog w = .ok (.enter 100 #[.agg #[x, y, z]]) w := by kernel_rfl
theorem cm_vecv_Mask (x y : Value) (z : BitVec 16) (u : Value) (w : World) : (callMethod (.iface 112 (.agg #[.iface 106 (.agg #[x, y, u16v z]), u])) "Mask" #[]).run Tryz.prog w = .ok (.enter 50 #[u16v z]) w := by kernel_rfl
theorem cm_vecv_Kind (x y z : Value) (u : Value) (w : World) : (callMethod (.iface 112 (.agg #[.iface 106 (.agg #[x, y, z]), u])) "Kind" #[]).run Tryz.prog w = .ok (.enter 101 #[.agg #[x, y, z]]) w := by kernel_rfl
theorem cm_opmaskv_ID (x y z : Value) (w : World) : (callMethod (.iface 113 (.agg #[.iface 106 (.agg #[x, y, z])])) "ID" #[]).run Tryz.prog w = .ok (.enter 100 #[.agg #[x, y, z]]) w := by kernel_rfl
theorem cm_opmaskv_Mask (x y : Value) (z : BitVec 16) (w : World) : (callMethod (.iface 113 (.agg #[.iface 106 (.agg #[x, y, u16v z])])) "Mask" #[]).run Tryz.prog w = .ok (.enter 50 #[u16v z]) w := by kernel_rfl
theorem cm_opmaskv_Kind (x y z : Value) (w : World) : (callMethod (.iface 113 (.agg #[.iface 106 (.agg #[x, y, z])])) "Kind" #[]).run Tryz.prog w = .ok (.enter 101 #[.agg #[x, y, z]]) w := by kernel_rfl
theorem cm_virtual_ID (x y z : Value) (w : World) : (callMethod (.iface 106 (.agg #[x, y, z])) "ID" #[]).run Tryz.prog w = .ok (.enter 100 #[.agg #[x, y, z]]) w := by kernel_rfl
theorem cm_virtual_Mask (x y : Value) (z : BitVec 16) (w : World) : (callMethod (.iface 106 (.agg #[x, y, u16v z])) "Mask" #[]).run Tryz.prog w = .ok (.enter 50 #[u16v z]) w := by kernel_rfl
theorem cm_virtual_Kind (x y z : Value) (w : World) : (callMethod (.iface 106 (.agg #[x, y, z])) "Kind" #[]).run Tryz.prog w = .ok (.enter 101 #[.agg #[x, y, z]]) w := by kernel_rfl
theorem cm_gpp_ID (x y z p q : Value) (w : World) : (callMethod (.iface 149 (.agg #[.iface 124 (.agg #[x, y, z, p, q])])) "ID" #[]).run Tryz.prog w = .ok (.enter 117 #[.agg #[x, y, z, p, q]]) w := by kernel_rfl
theorem cm_gpp_Mask (x y z p : Value) (q : BitVec 16) (w : World) : (callMethod (.iface 149 (.agg #[.iface 124 (.agg #[x, y, z, p, u16v q])])) "Mask" #[]).run Tryz.prog w = .ok (.enter 50 #[u16v q]) w := by kernel_rfl
theorem cm_gpp_Kind (x y z p q : Value) (w : World) : (callMethod (.iface 149 (.agg #[.iface 124 (.agg #[x, y, z, p, q])])) "Kind" #[]).run Tryz.prog w = .ok (.enter 119 #[.agg #[x, y, z, p, q]]) w := by kernel_rfl
theorem cm_gpp_PhysicalIndex (x y z p q : Value) (w : World) : (callMethod (.iface 149 (.agg #[.iface 124 (.agg #[x, y, z, p, q])])) "PhysicalIndex" #[]).run Tryz.prog w = .ok (.enter 120 #[.agg #[x, y, z, p, q]]) w := by kernel_rfl
theorem cm_vecp_ID (x y z p q : Value) (u : Value) (w : World) : (callMethod (.iface 151 (.agg #[.iface 124 (.agg #[x, y, z, p, q]), u])) "ID" #[]).run Tryz.prog w = .ok (.enter 117 #[.agg #[x, y, z, p, q]]) w := by kernel_rfl
theorem cm_vecp_Mask (x y z p : Value) (q : BitVec 16) (u : Value) (w : World) : (callMethod (.iface 151 (.agg #[.iface 124 (.agg #[x, y, z, p, u16v q]), u])) "Mask" #[]).run Tryz.prog w = .ok (.enter 50 #[u16v q]) w := by kernel_rfl
theorem cm_vecp_Kind (x y z p q : Value) (u : Value) (w : World) : (callMethod (.iface 151 (.agg #[.iface 124 (.agg #[x, y, z, p, q]), u])) "Kind" #[]).run Tryz.prog w = .ok (.enter 119 #[.agg #[x, y, z, p, q]]) w := by kernel_rfl
theorem cm_vecp_PhysicalIndex (x y z p q : Value) (u : Value) (w : World) : (callMethod (.iface 151 (.agg #[.iface 124 (.agg #[x, y, z, p, q]), u])) "PhysicalIndex" #[]).run Tryz.prog w = .ok (.enter 120 #[.agg #[x, y, z, p, q]]) w := by kernel_rfl
theorem cm_opmaskp_ID (x y z p q : Value) (w : World) : (callMethod (.iface 152 (.agg #[.iface 124 (.agg #[x, y, z, p, q])])) "ID" #[]).run Tryz.prog w = .ok (.enter 117 #[.agg #[x, y, z, p, q]]) w := by kernel_rfl
theorem cm_opmaskp_Mask (x y z p : Value) (q : BitVec 16) (w : World) : (callMethod (.iface 152 (.agg #[.iface 124 (.agg #[x, y, z, p, u16v q])])) "Mask" #[]).run Tryz.prog w = .ok (.enter 50 #[u16v q]) w := by kernel_rfl
theorem cm_opmaskp_Kind (x y z p q : Value) (w : World) : (callMethod (.iface 152 (.agg #[.iface 124 (.agg #[x, y, z, p, q])])) "Kind" #[]).run Tryz.prog w = .ok (.enter 119 #[.agg #[x, y, z, p, q]]) w := by kernel_rfl
theorem cm_opmaskp_PhysicalIndex (x y z p q : Value) (w : World) : (callMethod (.iface 152 (.agg #[.iface 124 (.agg #[x, y, z, p, q])])) "PhysicalIndex" #[]).run Tryz.prog w = .ok (.enter 120 #[.agg #[x, y, z, p, q]]) w := by kernel_rfl
theorem cm_register_ID (x y z p q : Value) (w : World) : (callMethod (.iface 124 (.agg #[x, y, z, p, q])) "ID" #[]).run Tryz.prog w = .ok (.enter 117 #[.agg #[x, y, z, p, q]]) w := by kernel_rfl
theorem cm_register_Mask (x y z p : Value) (q : BitVec 16) (w : World) : (callMethod (.iface 124 (.agg #[x, y, z, p, u16v q])) "Mask" #[]).run Tryz.prog w = .ok (.enter 50 #[u16v q]) w := by kernel_rfl
theorem cm_register_Kind (x y z p q : Value) (w : World) : (callMethod (.iface 124 (.agg #[x, y, z, p, q])) "Kind" #[]).run Tryz.prog w = .ok (.enter 119 #[.agg #[x, y, z, p, q]]) w := by kernel_rfl
theorem cm_register_PhysicalIndex (x y z p q : Value) (w : World) : (callMethod (.iface 124 (.agg #[x, y, z, p, q])) "PhysicalIndex" #[]).run Tryz.prog w = .ok (.enter 120 #[.agg #[x, y, z, p, q]]) w := by kernel_rfl

theorem reg_ID {w : World} {r : Rg} {v : Value} (h : RegV w r v) : MCalls Tryz.prog v "ID" #[] w fun e w' => e = .returned (u32v (ridR r)) ∧ Fr Non w w' := by
  obtain ⟨vt, k, i, s⟩ := r
  unfold RegV at h
  cases vt with
  | true =>
    simp only [if_true] at h
    subst h
    unfold regVirt virtV
    split
    · exact ⟨_, _, cm_gpv_ID .., vID_c w k i s⟩
    · split
      · exact ⟨_, _, cm_vecv_ID .., vID_c w k i s⟩
      · split
        · exact ⟨_, _, cm_opmaskv_ID .., vID_c w k i s⟩
        · exact ⟨_, _, cm_virtual_ID .., vID_c w k i s⟩
  | false =>
    simp only [Bool.false_eq_true, if_false] at h
    obtain ⟨f, nm, info, h1, h2⟩ := h
    subst h1
    unfold regPhys physV
    split
    · exact ⟨_, _, cm_gpp_ID .., rID_c w f k i nm info s h2⟩
    · split
      · exact ⟨_, _, cm_vecp_ID .., rID_c w f k i nm info s h2⟩
      · split
        · exact ⟨_, _, cm_opmaskp_ID .., rID_c w f k i nm info s h2⟩
        · exact ⟨_, _, cm_register_ID .., rID_c w f k i nm info s h2⟩

theorem reg_Mask {w : World} {r : Rg} {v : Value} (h : RegV w r v) : MCalls Tryz.prog v "Mask" #[] w fun e w' => e = .returned (u16v r.spec) ∧ Fr Non w w' := by
  obtain ⟨vt, k, i, s⟩ := r
  unfold RegV at h
  cases vt with
  | true =>
    simp only [if_true] at h
    subst h
    unfold regVirt virtV
    split
    · exact ⟨_, _, cm_gpv_Mask .., (SpecMask_c w s).mono fun e w' ⟨he, hw⟩ => ⟨he, hw ▸ Fr.refl _ _⟩⟩
    · split
      · exact ⟨_, _, cm_vecv_Mask .., (SpecMask_c w s).mono fun e w' ⟨he, hw⟩ => ⟨he, hw ▸ Fr.refl _ _⟩⟩
      · split
        · exact ⟨_, _, cm_opmaskv_Mask .., (SpecMask_c w s).mono fun e w' ⟨he, hw⟩ => ⟨he, hw ▸ Fr.refl _ _⟩⟩
        · exact ⟨_, _, cm_virtual_Mask .., (SpecMask_c w s).mono fun e w' ⟨he, hw⟩ => ⟨he, hw ▸ Fr.refl _ _⟩⟩
  | false =>
    simp only [Bool.false_eq_true, if_false] at h
    obtain ⟨f, nm, info, h1, h2⟩ := h
    subst h1
    unfold regPhys physV
    split
    · exact ⟨_, _, cm_gpp_Mask .., (SpecMask_c w s).mono fun e w' ⟨he, hw⟩ => ⟨he, hw ▸ Fr.refl _ _⟩⟩
    · split
      · exact ⟨_, _, cm_vecp_Mask .., (SpecMask_c w s).mono fun e w' ⟨he, hw⟩ => ⟨he, hw ▸ Fr.refl _ _⟩⟩
      · split
        · exact ⟨_, _, cm_opmaskp_Mask .., (SpecMask_c w s).mono fun e w' ⟨he, hw⟩ => ⟨he, hw ▸ Fr.refl _ _⟩⟩
        · exact ⟨_, _, cm_register_Mask .., (SpecMask_c w s).mono fun e w' ⟨he, hw⟩ => ⟨he, hw ▸ Fr.refl _ _⟩⟩

theorem reg_Kind {w : World} {r : Rg} {v : Value} (h : RegV w r v) : MCalls Tryz.prog v "Kind" #[] w fun e w' => e = .returned (u8v r.kind) ∧ Fr Non w w' := by
  obtain ⟨vt, k, i, s⟩ := r
  unfold RegV at h
  cases vt with
  | true =>
    simp only [if_true] at h
    subst h
    unfold regVirt virtV
    split
    · exact ⟨_, _, cm_gpv_Kind .., vKind_c w k i s⟩
    · split
      · exact ⟨_, _, cm_vecv_Kind .., vKind_c w k i s⟩
      · split
        · exact ⟨_, _, cm_opmaskv_Kind .., vKind_c w k i s⟩
        · exact ⟨_, _, cm_virtual_Kind .., vKind_c w k i s⟩
  | false =>
    simp only [Bool.false_eq_true, if_false] at h
    obtain ⟨f, nm, info, h1, h2⟩ := h
    subst h1
    unfold regPhys physV
    split
    · exact ⟨_, _, cm_gpp_Kind .., rKind_c w f k i nm info s h2⟩
    · split
      · exact ⟨_, _, cm_vecp_Kind .., rKind_c w f k i nm info s h2⟩
      · split
        · exact ⟨_, _, cm_opmaskp_Kind .., rKind_c w f k i nm info s h2⟩
        · exact ⟨_, _, cm_register_Kind .., rKind_c w f k i nm info s h2⟩

theorem reg_PhysicalIndex {w : World} {r : Rg} {v : Value} (h : RegV w r v) (hp : r.virt = false) : MCalls Tryz.prog v "PhysicalIndex" #[] w fun e w' => e = .returned (u16v r.idx) ∧ Fr Non w w' := by
  obtain ⟨vt, k, i, s⟩ := r
  unfold RegV at h
  simp only at hp
  subst hp
  simp only [Bool.false_eq_true, if_false] at h
  obtain ⟨f, nm, info, h1, h2⟩ := h
  subst h1
  unfold regPhys physV
  split
  · exact ⟨_, _, cm_gpp_PhysicalIndex .., rIndex_c w _ i nm info s⟩
  · split
    · exact ⟨_, _, cm_vecp_PhysicalIndex .., rIndex_c w _ i nm info s⟩
    · split
      · exact ⟨_, _, cm_opmaskp_PhysicalIndex .., rIndex_c w _ i nm info s⟩
      · exact ⟨_, _, cm_register_PhysicalIndex .., rIndex_c w _ i nm info s⟩

end Go.Proofs.YtglamkopjjimjaaGreat
