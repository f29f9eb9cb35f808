/- The sets of masks of the package: what Add, Discard, Update, DifferenceUpdate, Clone and Difference do to the map in memory. -/
import Derived.Test.YtglamkopjjimjaaGreatProg
import Derived.Test.YtglamkopjjimjaaGreatBase
set_option linter.unusedVariables false
set_option linter.unusedSimpArgs false
namespace Go.Proofs.YtglamkopjjimjaaGreat
open Go.RowKit

abbrev LM := List (BitVec 32 × BitVec 16)
abbrev maskOf (id : BitVec 32) (l : LM) : BitVec 16 := getZ 0#16 id l
abbrev SetIs (w : World) (b : Nat) (l : LM) : Prop := MapIs w b u32v u16v l
theorem ko32 : KeyOk Tryz.prog 53 u32v := u32_keyok Tryz.underlying53
theorem zero16 (w : World) : (zeroValue 24).run Tryz.prog w = .ok (u16v 0#16) w := by kernel_rfl

/-! ### The plain side -/
def addM (id : BitVec 32) (m : BitVec 16) (l : LM) : LM := if (maskOf id l &&& m) == m then l else put id (maskOf id l ||| m) l
def addCh (id : BitVec 32) (m : BitVec 16) (l : LM) : Bool := !((maskOf id l &&& m) == m)
def discM (id : BitVec 32) (m : BitVec 16) (l : LM) : LM :=
  if (maskOf id l &&& m) == 0#16 then l else
  if (maskOf id l &&& ~~~m) == 0#16 then del id (put id (maskOf id l &&& ~~~m) l) else put id (maskOf id l &&& ~~~m) l
def discCh (id : BitVec 32) (m : BitVec 16) (l : LM) : Bool := !((maskOf id l &&& m) == 0#16)

theorem and_eq_right {a m : BitVec 16} (h : a &&& m = m) : a ||| m = a := by
  apply BitVec.eq_of_getLsbD_eq
  intro i hi
  have := congrArg (fun x => x.getLsbD i) h
  simp only [BitVec.getLsbD_and, BitVec.getLsbD_or] at this ⊢
  cases h1 : a.getLsbD i <;> cases h2 : m.getLsbD i <;> simp_all
theorem or_ne {a m : BitVec 16} (h : ¬ a &&& m = m) : a ||| m ≠ a := fun e => h (by
  apply BitVec.eq_of_getLsbD_eq
  intro i hi
  have := congrArg (fun x => x.getLsbD i) e
  simp only [BitVec.getLsbD_and, BitVec.getLsbD_or] at this ⊢
  cases h1 : a.getLsbD i <;> cases h2 : m.getLsbD i <;> simp_all)
theorem and_not_eq {a m : BitVec 16} (h : a &&& m = 0#16) : a &&& ~~~m = a := by
  apply BitVec.eq_of_getLsbD_eq
  intro i hi
  have := congrArg (fun x => x.getLsbD i) h
  simp only [BitVec.getLsbD_and, BitVec.getLsbD_not, BitVec.getLsbD_zero] at this ⊢
  cases h1 : a.getLsbD i <;> cases h2 : m.getLsbD i <;> simp_all
theorem and_not_ne {a m : BitVec 16} (h : ¬ a &&& m = 0#16) : a &&& ~~~m ≠ a := fun e => h (by
  apply BitVec.eq_of_getLsbD_eq
  intro i hi
  have := congrArg (fun x => x.getLsbD i) e
  simp only [BitVec.getLsbD_and, BitVec.getLsbD_not, BitVec.getLsbD_zero] at this ⊢
  cases h1 : a.getLsbD i <;> cases h2 : m.getLsbD i <;> simp_all)

theorem an0 (x : BitVec 16) : x &&& ~~~(0#16) = x := by
  apply BitVec.eq_of_getLsbD_eq; intro i hi; simp only [BitVec.getLsbD_and, BitVec.getLsbD_not, BitVec.getLsbD_zero]; simp [hi]

theorem getZ_put {κ ν : Type} [DecidableEq κ] (z : ν) (k k' : κ) (v : ν) (l : List (κ × ν)) : getZ z k' (put k v l) = if k' = k then v else getZ z k' l := by
  unfold getZ; rw [look_put]; split <;> rfl
theorem getZ_del {κ ν : Type} [DecidableEq κ] (z : ν) (k k' : κ) {l : List (κ × ν)} (h : (keys l).Nodup) : getZ z k' (del k l) = if k' = k then z else getZ z k' l := by
  unfold getZ; rw [look_del h]; split <;> rfl

theorem maskOf_addM (id : BitVec 32) (m : BitVec 16) (l : LM) (k : BitVec 32) : maskOf k (addM id m l) = if k = id then maskOf id l ||| m else maskOf k l := by
  unfold addM
  by_cases h : (maskOf id l &&& m) = m
  · simp only [beq_iff_eq, h, if_true]
    split
    · rename_i e; subst e; exact (and_eq_right h).symm
    · rfl
  · simp only [beq_iff_eq, h, if_false]; exact getZ_put ..
theorem maskOf_discM (id : BitVec 32) (m : BitVec 16) {l : LM} (hn : (keys l).Nodup) (k : BitVec 32) : maskOf k (discM id m l) = if k = id then maskOf id l &&& ~~~m else maskOf k l := by
  unfold discM
  by_cases h : (maskOf id l &&& m) = 0#16
  · simp only [beq_iff_eq, h, if_true]
    split
    · rename_i e; subst e; exact (and_not_eq h).symm
    · rfl
  · simp only [beq_iff_eq, h, if_false]
    by_cases h2 : (maskOf id l &&& ~~~m) = 0#16
    · simp only [h2, if_true]; unfold maskOf; rw [getZ_del _ _ _ (nodup_put hn), getZ_put]; split <;> simp_all
    · simp only [h2, if_false]; unfold maskOf; rw [getZ_put]

def ofL (xs : LM) : LM := xs.foldl (fun s x => put x.1 x.2 s) []
theorem ofL_snoc (xs : LM) (x : BitVec 32 × BitVec 16) : ofL (xs ++ [x]) = put x.1 x.2 (ofL xs) := by unfold ofL; rw [List.foldl_append]; rfl
def encL (x : BitVec 32 × BitVec 16) : List Value := [u32v x.1, u16v x.2]

/-! ### The walks -/
def RetMap (w : World) (R : Nat → World → Prop) (e : Ending) (w' : World) : Prop := ∃ b, e = .returned (.map (some b)) ∧ w.heap.size ≤ b ∧ R b w' ∧ Fr Non w w'

theorem NewEmpty_c (w : World) : Calls Tryz.prog 28 #[] w fun e w' => e = .returned (.map (some w.heap.size)) ∧ w.alloc (.map #[] 0) = w' := by
  have hmm := @run_makeMap Tryz.prog
  go_enter Tryz.func28, Tryz.ntmps28
  go_wp2
  go_ret
  exact ⟨rfl, rfl⟩

set_option maxHeartbeats 400000 in
theorem masks_c (w : World) (a : Option Addr) (n cap : Nat) (xs : LM) (hn : xs.length = n) (hR : RdS w a 2 encL xs) (hb : n ≤ 4294967296) :
    Calls Tryz.prog 18 #[.slice a n cap] w (RetMap w fun b w' => SetIs w' b (ofL xs)) := by
  have Hn := Lib.hid hn
  clear hn
  go_enter Tryz.func18, Tryz.ntmps18
  go_wp2_with (go_at_call 28; refine (NewEmpty_c _).mono ?_; rintro e w' ⟨rfl, rfl⟩)
  go_loopw [9] (fun i wr => ∃ k : Nat, k ≤ n ∧ i = .int .i64 k ∧ SetIs wr w.heap.size (ofL (xs.take k)) ∧ Fr Non w wr)
    (fun i _ => n - (intOf i).toNat)
  case atStart => exact ⟨0, Nat.zero_le _, rfl, MapIs.made _, (Fr.refl _ _).alloc _⟩
  case round =>
    obtain ⟨k, hk, rfl, hM, hF⟩ := hrel
    by_cases hlt : k < n
    · have hk' : k < xs.length := by rw [Hn.out]; exact hlt
      obtain ⟨blk, off, rfl, hc⟩ := (hR.fr hF (fun _ => rfl) (by omega) (fun _ _ h => h)) (fun e => by rw [e] at hk'; simp at hk')
      have hc0 := hc k hk' 0 (by omega)
      have hc1 := hc k hk' 1 (by omega)
      simp only [encL, List.getElem?_cons_zero, List.getElem?_cons_succ, Nat.add_zero] at hc0 hc1
      clear hc hR
      go_wp2_with (at_mapUpdate; refine wl_update _ rfl _ _ _ _ _ rfl ko32 Tryz.underlying50 w.heap.size _ rfl (hM.of_block (Below.heap_alloc _ _ _ hM.lt)) _ _ rfl rfl ?_; intro w1 h1 h2 h3)
      go_roundw
      case rel =>
        refine ⟨k + 1, by omega, by go_num, ?_, ?_⟩
        · have e : ofL (xs.take (k + 1)) = put xs[k].1 xs[k].2 (ofL (xs.take k)) := by
            rw [List.take_succ_eq_append_getElem hk', ofL_snoc]
          rw [e]; exact h1
        · exact (hF.alloc _).then h2 (fun i hi e => by subst e; omega)
      case measure => simp [intOf]; omega
    · have hkn : k = n := by omega
      subst hkn
      go_wp2
      go_ret
      rw [← Hn.out, List.take_length] at hM
      exact ⟨_, rfl, Nat.le_refl _, hM, hF⟩

set_option maxHeartbeats 400000 in
theorem Add_c (w : World) (b : Nat) (l : LM) (id : BitVec 32) (m : BitVec 16) (hM : SetIs w b l) :
    Calls Tryz.prog 19 #[.map (some b), u32v id, u16v m] w fun e w' => e = .returned (.bool (addCh id m l)) ∧ SetIs w' b (addM id m l) ∧ Fr (· = b) w w' ∧ w'.heap.size = w.heap.size := by
  by_cases hc : ((maskOf id l &&& m) == m) = true
  · have e1 : addM id m l = l := by simp only [addM, hc, if_true]
    have e2 : addCh id m l = false := by simp [addCh, hc]
    rw [e1, e2]
    go_enter Tryz.func19, Tryz.ntmps19
    go_wp2_with (at_lookup; refine wl_lookup _ rfl _ _ _ _ rfl ko32 Tryz.underlying50 0#16 zero16 b l rfl hM id rfl ?_)
    go_ret
    exact ⟨rfl, hM, Fr.refl _ _, rfl⟩
  · have hc' : ((maskOf id l &&& m) == m) = false := by simpa using hc
    have e1 : addM id m l = put id (maskOf id l ||| m) l := by simp only [addM, hc', Bool.false_eq_true, if_false]
    have e2 : addCh id m l = true := by simp [addCh, hc']
    rw [e1, e2]
    clear hc
    go_enter Tryz.func19, Tryz.ntmps19
    go_wp2_with (first | (at_lookup; refine wl_lookup _ rfl _ _ _ _ rfl ko32 Tryz.underlying50 0#16 zero16 b l rfl hM id rfl ?_) | (at_mapUpdate; refine wl_update _ rfl _ _ _ _ _ rfl ko32 Tryz.underlying50 b l rfl hM id _ rfl rfl ?_; intro w1 h1 h2 h3))
    go_ret
    exact ⟨rfl, h1, h2, h3⟩

theorem discM_none {id : BitVec 32} {m : BitVec 16} {l : LM} (h : look id l = none) : discM id m l = l ∧ discCh id m l = false := by
  have : maskOf id l = 0#16 := by unfold maskOf getZ; rw [h]; rfl
  simp [discM, discCh, this]

set_option maxHeartbeats 800000 in
theorem Discard_c (w : World) (b : Nat) (l : LM) (id : BitVec 32) (m : BitVec 16) (hM : SetIs w b l) :
    Calls Tryz.prog 20 #[.map (some b), u32v id, u16v m] w fun e w' => e = .returned (.bool (discCh id m l)) ∧ SetIs w' b (discM id m l) ∧ Fr (· = b) w w' ∧ w'.heap.size = w.heap.size := by
  by_cases hs : (look id l).isSome = true
  · by_cases hc : ((maskOf id l &&& m) == 0#16) = true
    · have e1 : discM id m l = l := by simp only [discM, hc, if_true]
      have e2 : discCh id m l = false := by simp only [discCh, hc]; rfl
      rw [e1, e2]
      clear e1 e2
      go_enter Tryz.func20, Tryz.ntmps20
      go_wp2_with (at_lookup; refine wl_lookup_ok _ rfl _ _ _ _ rfl ko32 Tryz.underlying50 0#16 zero16 b l rfl hM id rfl ?_)
      go_ret
      exact ⟨rfl, hM, Fr.refl _ _, rfl⟩
    · have hc' : ((maskOf id l &&& m) == 0#16) = false := by simpa using hc
      clear hc
      have eg : getZ 0#16 id (put id (getZ 0#16 id l &&& ~~~m) l) = getZ 0#16 id l &&& ~~~m := by rw [getZ_put]; simp
      have e2 : discCh id m l = true := by simp only [discCh, hc']; rfl
      by_cases hz : ((maskOf id l &&& ~~~m) == 0#16) = true
      · have e1 : discM id m l = del id (put id (maskOf id l &&& ~~~m) l) := by simp only [discM, hc', hz, if_true, Bool.false_eq_true, if_false]
        rw [e1, e2]
        clear e1 e2
        go_enter Tryz.func20, Tryz.ntmps20
        go_wp2_with (first
          | (at_lookup; refine wl_lookup_ok _ rfl _ _ _ _ rfl ko32 Tryz.underlying50 0#16 zero16 b l rfl hM id rfl ?_)
          | (at_lookup; refine wl_lookup _ rfl _ _ _ _ rfl ko32 Tryz.underlying50 0#16 zero16 b l rfl hM id rfl ?_)
          | (at_lookup; refine wl_lookup _ rfl _ _ _ _ rfl ko32 Tryz.underlying50 0#16 zero16 b _ rfl h1 id rfl ?_)
          | (at_mapUpdate; refine wl_update _ rfl _ _ _ _ _ rfl ko32 Tryz.underlying50 b l rfl hM id _ rfl rfl ?_; intro w1 h1 h2 h3)
          | (at_delete; refine wl_delete _ rfl _ _ _ _ _ rfl ko32 Tryz.underlying50 b _ rfl h1 id rfl ?_; intro w2 h4 h5 h6))
        go_ret
        exact ⟨rfl, h4, h2.andThen h5, h6.trans h3⟩
      · have hz' : ((maskOf id l &&& ~~~m) == 0#16) = false := by simpa using hz
        clear hz
        have e1 : discM id m l = put id (maskOf id l &&& ~~~m) l := by simp only [discM, hc', hz', Bool.false_eq_true, if_false]
        rw [e1, e2]
        clear e1 e2
        go_enter Tryz.func20, Tryz.ntmps20
        go_wp2_with (first
          | (at_lookup; refine wl_lookup_ok _ rfl _ _ _ _ rfl ko32 Tryz.underlying50 0#16 zero16 b l rfl hM id rfl ?_)
          | (at_lookup; refine wl_lookup _ rfl _ _ _ _ rfl ko32 Tryz.underlying50 0#16 zero16 b l rfl hM id rfl ?_)
          | (at_lookup; refine wl_lookup _ rfl _ _ _ _ rfl ko32 Tryz.underlying50 0#16 zero16 b _ rfl h1 id rfl ?_)
          | (at_mapUpdate; refine wl_update _ rfl _ _ _ _ _ rfl ko32 Tryz.underlying50 b l rfl hM id _ rfl rfl ?_; intro w1 h1 h2 h3))
        go_ret
        exact ⟨rfl, h1, h2, h3⟩
  · have hs' : (look id l).isSome = false := by simpa using hs
    obtain ⟨e1, e2⟩ := discM_none (m := m) (by simpa using hs' : look id l = none)
    rw [e1, e2]
    clear hs e1 e2
    go_enter Tryz.func20, Tryz.ntmps20
    go_wp2_with (at_lookup; refine wl_lookup_ok _ rfl _ _ _ _ rfl ko32 Tryz.underlying50 0#16 zero16 b l rfl hM id rfl ?_)
    go_ret
    exact ⟨rfl, hM, Fr.refl _ _, rfl⟩

/-! ### What goes through a whole set -/
theorem maskOf_not_mem {id : BitVec 32} {l : LM} (h : id ∉ keys l) : maskOf id l = 0#16 := by unfold maskOf getZ; rw [look_none.2 h]; rfl
theorem maskOf_mem {k : BitVec 32} {v : BitVec 16} {l : LM} (hn : (keys l).Nodup) (h : (k, v) ∈ l) : maskOf k l = v := by unfold maskOf getZ; rw [mem_look hn h]; rfl
theorem mem_keys_perm {κ ν : Type} [DecidableEq κ] {l m : List (κ × ν)} (h : l.Perm m) (k : κ) : k ∈ keys l ↔ k ∈ keys m := (h.map _).mem_iff

/-- what a range that unites (takes away) has come to -/
structure Upd (op : BitVec 16 → BitVec 16 → BitVec 16) (s t rem cur : LM) (ch : Bool) : Prop where
  val : ∀ id, maskOf id cur = if id ∈ keys rem then maskOf id s else op (maskOf id s) (maskOf id t)
  same : ch = false ↔ ∀ id, maskOf id cur = maskOf id s

theorem Upd.start {op : BitVec 16 → BitVec 16 → BitVec 16} (h0 : ∀ x, op x 0#16 = x) (s t : LM) : Upd op s t t s false where
  val := fun id => by
    split
    · rfl
    · rename_i h; rw [maskOf_not_mem h, h0]
  same := by simp

theorem Upd.step {op : BitVec 16 → BitVec 16 → BitVec 16} {s t rem rem' cur cur' : LM} {ch c1 : Bool} {k : BitVec 32} {v : BitVec 16} (h : Upd op s t rem cur ch) (hp : rem.Perm ((k, v) :: rem'))
    (hn : (keys rem).Nodup) (ht : (keys t).Nodup) (hsub : ∀ p ∈ rem, p ∈ t) (hcur : ∀ id, maskOf id cur' = if id = k then op (maskOf k cur) v else maskOf id cur)
    (hc1 : c1 = false ↔ op (maskOf k cur) v = maskOf k cur) : Upd op s t rem' cur' (c1 || ch) := by
  have hk : k ∈ keys rem := (mem_keys_perm hp k).2 (by simp [keys])
  have hkv : maskOf k t = v := maskOf_mem ht (hsub _ (hp.mem_iff.2 (by simp)))
  have hck : maskOf k cur = maskOf k s := by rw [h.val k, if_pos hk]
  have hn' : k ∉ keys rem' := by
    have := (hp.map Prod.fst).nodup_iff.1 hn
    simp only [List.map_cons, List.nodup_cons] at this
    exact this.1
  have hmem : ∀ id, id ∈ keys rem ↔ id = k ∨ id ∈ keys rem' := fun id => by rw [mem_keys_perm hp id]; simp [keys]
  refine ⟨fun id => ?_, ?_⟩
  · rw [hcur id]
    by_cases e : id = k
    · subst e; rw [if_pos rfl, if_neg hn', hck, hkv]
    · rw [if_neg e, h.val id]
      by_cases hr : id ∈ keys rem'
      · rw [if_pos hr, if_pos ((hmem id).2 (.inr hr))]
      · rw [if_neg hr, if_neg (fun x => by rcases (hmem id).1 x with x | x; exact e x; exact hr x)]
  · rw [Bool.or_eq_false_iff, hc1, h.same]
    constructor
    · rintro ⟨a, b⟩ id
      rw [hcur id]
      by_cases e : id = k
      · subst e; rw [if_pos rfl, a, hck]
      · rw [if_neg e, b id]
    · intro a
      have ak := a k
      rw [hcur k, if_pos rfl] at ak
      refine ⟨by rw [ak, hck], fun id => ?_⟩
      by_cases e : id = k
      · subst e; exact hck
      · have := a id; rw [hcur id, if_neg e] at this; exact this

theorem addCh_iff (k : BitVec 32) (v : BitVec 16) (l : LM) : addCh k v l = false ↔ maskOf k l ||| v = maskOf k l := by
  unfold addCh
  by_cases h : maskOf k l &&& v = v
  · simp [h, and_eq_right h]
  · simp [h, or_ne h]
theorem discCh_iff (k : BitVec 32) (v : BitVec 16) (l : LM) : discCh k v l = false ↔ maskOf k l &&& ~~~v = maskOf k l := by
  unfold discCh
  by_cases h : maskOf k l &&& v = 0#16
  · simp [h, and_not_eq h]
  · simp [h, and_not_ne h]

def UpdPost (op : BitVec 16 → BitVec 16 → BitVec 16) (w : World) (b : Nat) (s t : LM) (e : Ending) (w' : World) : Prop :=
  ∃ ch s', e = .returned (.bool ch) ∧ SetIs w' b s' ∧ (∀ id, maskOf id s' = op (maskOf id s) (maskOf id t)) ∧ (ch = false ↔ ∀ id, maskOf id s' = maskOf id s) ∧ Fr (· = b) w w'

def UpdRel (op : BitVec 16 → BitVec 16 → BitVec 16) (w : World) (b c r : Nat) (s t : LM) (wr : World) (ch : Bool) : Prop :=
  ∃ rem cur, Rng wr c r u32v u16v t rem ∧ SetIs wr b cur ∧ Upd op s t rem cur ch ∧ Fr (· = b) w wr

set_option maxHeartbeats 800000 in
theorem Update_c (w : World) (b c : Nat) (s t : LM) (hb : b ≠ c) (hs : SetIs w b s) (ht : SetIs w c t) :
    Calls Tryz.prog 24 #[.map (some b), .map (some c)] w (UpdPost (· ||| ·) w b s t) := by
  have hbl := hs.lt
  go_enter Tryz.func24, Tryz.ntmps24
  go_wp2_with (at_range; refine wl_range _ rfl _ _ _ _ rfl Tryz.underlying50 c t rfl ht ?_; intro w0 hr0 hf0 hz0)
  go_frame
  go_loopw [5] (fun v wr => ∃ ch : Bool, v = .bool ch ∧ UpdRel (· ||| ·) w b c w.heap.size s t wr ch) (fun _ wr => wr.rangeLeft c w.heap.size)
  case atStart => exact ⟨false, rfl, t, s, hr0, hs.fr hf0 id, Upd.start (by simp) s t, hf0.mono (fun _ _ h => h.elim)⟩
  case round =>
    obtain ⟨ch, rfl, rem, cur, hr, hM, hU, hF⟩ := hrel
    go_wp2_with (at_next; refine wl_next _ rfl _ rfl c w.heap.size t rem rfl hr ?_ ?_)
    · intro he
      subst he
      go_wp2
      go_ret
      exact ⟨ch, cur, rfl, hM, fun id => by rw [hU.val id]; simp [keys], hU.same, hF⟩
    · intro k v rem' w1 hp hr1 hf1 hz1 hent
      have hent0 := hent w1 rfl rfl
      clear hent
      have hM1 : SetIs w1 b cur := hM.fr hf1 (fun e => by omega)
      go_wp2_with (go_at_call 19; refine (Add_c _ b cur k v hM1).mono ?_; rintro e w2 ⟨rfl, hM2, hf2, hz2⟩)
      have hr2 := hr1.fr hf2 (fun e => hb e.symm) (fun e => by omega)
      have hst := hU.step hp hr.nodup ht.nodup (fun p hp => hr.sub.subset hp) (maskOf_addM k v cur) (addCh_iff k v cur)
      have hFF : Fr (· = b) w w2 := (hF.then hf1 (fun i hi e => by omega)).andThen hf2
      have hmu : w2.rangeLeft c w.heap.size < wr.rangeLeft c w.heap.size := by rw [hr2.left_eq, hr.left_eq, hp.length_eq]; simp
      · have h1 : addCh k v cur = true := by assumption
        rw [h1, Bool.true_or] at hst
        go_roundw
        case rel => exact ⟨true, rfl, rem', _, hr2, hM2, hst, hFF⟩
        case measure => exact hmu
      · have h1 : addCh k v cur = false := by simpa using (by assumption : ¬ addCh k v cur = true)
        have hr2 := hr1.fr hf2 (fun e => hb e.symm) (fun e => by omega)
        have hst := hU.step hp hr.nodup ht.nodup (fun p hp => hr.sub.subset hp) (maskOf_addM k v cur) (addCh_iff k v cur)
        have hFF : Fr (· = b) w w2 := (hF.then hf1 (fun i hi e => by omega)).andThen hf2
        have hmu : w2.rangeLeft c w.heap.size < wr.rangeLeft c w.heap.size := by rw [hr2.left_eq, hr.left_eq, hp.length_eq]; simp
        rw [h1, Bool.false_or] at hst
        go_roundw
        case rel => exact ⟨ch, rfl, rem', _, hr2, hM2, hst, hFF⟩
        case measure => exact hmu

set_option maxHeartbeats 800000 in
theorem DiffUpdate_c (w : World) (b c : Nat) (s t : LM) (hb : b ≠ c) (hs : SetIs w b s) (ht : SetIs w c t) :
    Calls Tryz.prog 25 #[.map (some b), .map (some c)] w (UpdPost (fun x y => x &&& ~~~y) w b s t) := by
  have hbl := hs.lt
  go_enter Tryz.func25, Tryz.ntmps25
  go_wp2_with (at_range; refine wl_range _ rfl _ _ _ _ rfl Tryz.underlying50 c t rfl ht ?_; intro w0 hr0 hf0 hz0)
  go_frame
  go_loopw [5] (fun v wr => ∃ ch : Bool, v = .bool ch ∧ UpdRel (fun x y => x &&& ~~~y) w b c w.heap.size s t wr ch) (fun _ wr => wr.rangeLeft c w.heap.size)
  case atStart => exact ⟨false, rfl, t, s, hr0, hs.fr hf0 id, Upd.start an0 s t, hf0.mono (fun _ _ h => h.elim)⟩
  case round =>
    obtain ⟨ch, rfl, rem, cur, hr, hM, hU, hF⟩ := hrel
    go_wp2_with (at_next; refine wl_next _ rfl _ rfl c w.heap.size t rem rfl hr ?_ ?_)
    · intro he
      subst he
      go_wp2
      go_ret
      exact ⟨ch, cur, rfl, hM, fun id => by rw [hU.val id]; simp [keys], hU.same, hF⟩
    · intro k v rem' w1 hp hr1 hf1 hz1 hent
      have hent0 := hent w1 rfl rfl
      clear hent
      have hM1 : SetIs w1 b cur := hM.fr hf1 (fun e => by omega)
      go_wp2_with (go_at_call 20; refine (Discard_c _ b cur k v hM1).mono ?_; rintro e w2 ⟨rfl, hM2, hf2, hz2⟩)
      have hr2 := hr1.fr hf2 (fun e => hb e.symm) (fun e => by omega)
      have hst := hU.step hp hr.nodup ht.nodup (fun p hp => hr.sub.subset hp) (maskOf_discM k v hM.nodup) (discCh_iff k v cur)
      have hFF : Fr (· = b) w w2 := (hF.then hf1 (fun i hi e => by omega)).andThen hf2
      have hmu : w2.rangeLeft c w.heap.size < wr.rangeLeft c w.heap.size := by rw [hr2.left_eq, hr.left_eq, hp.length_eq]; simp
      · have h1 : discCh k v cur = true := by assumption
        rw [h1, Bool.true_or] at hst
        go_roundw
        case rel => exact ⟨true, rfl, rem', _, hr2, hM2, hst, hFF⟩
        case measure => exact hmu
      · have h1 : discCh k v cur = false := by simpa using (by assumption : ¬ discCh k v cur = true)
        have hr2 := hr1.fr hf2 (fun e => hb e.symm) (fun e => by omega)
        have hst := hU.step hp hr.nodup ht.nodup (fun p hp => hr.sub.subset hp) (maskOf_discM k v hM.nodup) (discCh_iff k v cur)
        have hFF : Fr (· = b) w w2 := (hF.then hf1 (fun i hi e => by omega)).andThen hf2
        have hmu : w2.rangeLeft c w.heap.size < wr.rangeLeft c w.heap.size := by rw [hr2.left_eq, hr.left_eq, hp.length_eq]; simp
        rw [h1, Bool.false_or] at hst
        go_roundw
        case rel => exact ⟨ch, rfl, rem', _, hr2, hM2, hst, hFF⟩
        case measure => exact hmu

end Go.Proofs.YtglamkopjjimjaaGreat
