/- impl.Masks: a script over a mask set. -/
import Derived.Test.YtglamkopjjimjaaGreatFPlain
import Derived.Test.YtglamkopjjimjaaGreatFWorld3
import Derived.Deep.LoopGhost
import Derived.Deep.Cut
set_option linter.unusedVariables false
set_option linter.unusedSimpArgs false
namespace Go.Proofs.YtglamkopjjimjaaGreat
open Go.RowKit

structure Step where
  dop : Int
  id : BitVec 32
  mask : BitVec 16
  reg : Rg
  set : Value

def encStep (x : Step) : List Value := [.int .i64 x.dop, u32v x.id, u16v x.mask, .bool x.reg.virt, u8v x.reg.kind, u16v x.reg.idx, u16v x.reg.spec, x.set]

/-- what one step leaves of each number -/
def stepF (x : Step) (xs : LM) (f : BitVec 32 → BitVec 16) (k : BitVec 32) : BitVec 16 :=
  if x.dop = 0 then if k = x.id then f k ||| x.mask else f k
  else if x.dop = 1 then if k = x.id then f k &&& ~~~x.mask else f k
  else if x.dop = 2 then if isReg x.reg then if k = ridR x.reg then f k ||| x.reg.spec else f k else f k
  else if x.dop = 3 then if isReg x.reg then if k = ridR x.reg then f k &&& ~~~x.reg.spec else f k else f k
  else if x.dop = 4 then f k ||| maskOf k (ofL xs)
  else if x.dop = 5 then f k &&& ~~~(maskOf k (ofL xs))
  else f k

/-- a told step: whether it turned the set, and the set's slice -/
structure Told where
  ch : Bool
  set : Value
def encT (t : Told) : List Value := [.bool t.ch, t.set]

/-- a step's turn of what each number has, told -/
def StepOk (x : Step) (xs : LM) (f : BitVec 32 → BitVec 16) (ch : Bool) (l : LM) : Prop :=
  (keys l).Nodup ∧ (∀ k, maskOf k l = stepF x xs f k) ∧ (ch = false ↔ ∀ k, stepF x xs f k = f k)

/-- the told steps, from what each number had -/
def Trace (w : World) (Ok : Nat → Prop) : (BitVec 32 → BitVec 16) → List (Step × LM) → List Told → Prop
  | _, [], [] => True
  | f, (x, xs) :: rest, t :: ts => (∃ l a c, StepOk x xs f t.ch l ∧ t.set = .slice a l.length c ∧ l.length ≤ c ∧ RdS w a 2 encL l ∧ ∀ p : Addr, a = some p → Ok p.block) ∧ Trace w Ok (stepF x xs f) rest ts
  | _, _, _ => False

def lastF : (BitVec 32 → BitVec 16) → List (Step × LM) → BitVec 32 → BitVec 16
  | f, [] => f
  | f, (x, xs) :: rest => lastF (stepF x xs f) rest

theorem last_snoc (f : BitVec 32 → BitVec 16) (l : List (Step × LM)) (x : Step) (xs : LM) : lastF f (l ++ [(x, xs)]) = stepF x xs (lastF f l) := by
  induction l generalizing f with
  | nil => rfl
  | cons y l ih => obtain ⟨a, b⟩ := y; simp only [List.cons_append, lastF]; exact ih _

theorem Trace.snoc {w : World} {Ok : Nat → Prop} {x : Step} {xs l : LM} {ch : Bool} {a : Option Addr} {c : Nat} : ∀ {f : BitVec 32 → BitVec 16} {st : List (Step × LM)} {ts : List Told}, Trace w Ok f st ts →
    StepOk x xs (lastF f st) ch l → l.length ≤ c → RdS w a 2 encL l → (∀ p : Addr, a = some p → Ok p.block) → Trace w Ok f (st ++ [(x, xs)]) (ts ++ [⟨ch, .slice a l.length c⟩])
  | f, [], [], _, h1, h2, h3, h4 => ⟨⟨l, a, c, h1, rfl, h2, h3, h4⟩, trivial⟩
  | f, (y, ys) :: st, t :: ts, h, h1, h2, h3, h4 => ⟨h.1, Trace.snoc h.2 h1 h2 h3 h4⟩
  | f, [], _ :: _, h, _, _, _, _ => h.elim
  | f, _ :: _, [], h, _, _, _, _ => h.elim

theorem Trace.fr {w w' : World} {S Ok Ok' : Nat → Prop} (hf : Fr S w w') (hS : ∀ i, Ok i → ¬ S i) (hO : ∀ i, Ok i → Ok' i) : ∀ {f : BitVec 32 → BitVec 16} {st : List (Step × LM)} {ts : List Told}, Trace w Ok f st ts → Trace w' Ok' f st ts
  | f, [], [], _ => trivial
  | f, (y, ys) :: st, t :: ts, ⟨⟨l, a, c, h1, h2, h3, h4, h5⟩, h6⟩ => ⟨⟨l, a, c, h1, h2, h3, h4.fr hf (fun _ => rfl) (by omega) (fun p hp => hS _ (h5 p hp)), fun p hp => hO _ (h5 p hp)⟩, Trace.fr hf hS hO h6⟩
  | f, [], _ :: _, h => h.elim
  | f, _ :: _, [], h => h.elim

theorem Trace.len {w : World} {Ok : Nat → Prop} : ∀ {f : BitVec 32 → BitVec 16} {st : List (Step × LM)} {ts : List Told}, Trace w Ok f st ts → ts.length = st.length
  | f, [], [], _ => rfl
  | f, _ :: st, _ :: ts, h => by simp [Trace.len h.2]
  | f, [], _ :: _, h => h.elim
  | f, _ :: _, [], h => h.elim

/-- the steps as they lie in memory: each one's own set beside it -/
def StepsRd (w : World) (a : Option Addr) (st : List (Step × LM)) : Prop :=
  RdS w a 8 (fun p : Step × LM => encStep p.1) st ∧ ∀ p ∈ st, ∃ sa sc, p.1.set = .slice sa p.2.length sc ∧ RdS w sa 2 encL p.2 ∧ p.2.length ≤ 4294967296

theorem encStep_len (p : Step × LM) : (encStep p.1).length = 8 := rfl

theorem StepsRd.fr {w w' : World} {a : Option Addr} {st : List (Step × LM)} (h : StepsRd w a st) (hf : Fr Non w w') : StepsRd w' a st :=
  ⟨h.1.fr hf encStep_len (by omega) (fun _ _ h => h), fun p hp => by
    obtain ⟨sa, sc, h1, h2, h3⟩ := h.2 p hp
    exact ⟨sa, sc, h1, h2.fr hf (fun _ => rfl) (by omega) (fun _ _ h => h), h3⟩⟩

theorem elemTold : Elem Tryz.prog 33 37 2 32 where
  und := Tryz.underlying33
  info := by
    obtain ⟨i, h1, h2, h3, h4⟩ := info_parts (show (Tryz.prog.info? 37).map (fun i => (i.zero, i.size, i.bytes)) = some (some (.agg #[.bool false, .slice none 0 0]), 2, 32) by kernel_rfl)
    exact ⟨i, _, h1, h2, h3, h4, rfl⟩
  pos := by omega

/-- between two steps -/
structure MRel (w : World) (f0 : BitVec 32 → BitVec 16) (wb mb : Nat) (st : List (Step × LM)) (i : Nat) (oa : Option Addr) (oc : Nat) (wr : World) (fp : List Nat) (p : Nat → Option Nat) (s : LM) (ts : List Told) : Prop where
  world : WorldIs wr wb fp p
  new : ∀ j ∈ fp, w.heap.size ≤ j
  set : SetIs wr mb s
  mbNew : w.heap.size ≤ mb ∧ mb ∉ fp
  val : ∀ k, maskOf k s = lastF f0 (st.take i) k
  out : Own wr w.heap.size 37 2 encT (.slice oa i oc) ts
  outApart : ∀ b, oa.map (·.block) = some b → b ≠ mb ∧ b ∉ fp
  told : Trace wr (fun b => w.heap.size ≤ b ∧ b ≠ mb ∧ b ∉ fp ∧ oa.map (·.block) ≠ some b ∧ b < wr.heap.size) f0 (st.take i) ts
  fr : Fr Non w wr

/-- behind a step, ahead of its being told -/
structure Mid (wr w4 : World) (mb wb : Nat) (fp : List Nat) (x : Step) (xs : LM) (f : BitVec 32 → BitVec 16) (ch : Bool) (s' : LM) (fp1 : List Nat) (p1 : Nat → Option Nat) : Prop where
  set : SetIs w4 mb s'
  val : ∀ k, maskOf k s' = stepF x xs f k
  same : ch = false ↔ ∀ k, stepF x xs f k = f k
  world : WorldIs w4 wb fp1 p1
  grow : ∀ j ∈ fp1, j ∈ fp ∨ wr.heap.size ≤ j
  fr : Fr (fun j => j = mb ∨ j = wb) wr w4

theorem Mid.of {wr w4 : World} {mb wb : Nat} {fp : List Nat} {x : Step} {xs : LM} {f : BitVec 32 → BitVec 16} {ch : Bool} {s s' : LM} {fp1 : List Nat} {p1 : Nat → Option Nat}
    (hset : SetIs w4 mb s') (hf : ∀ k, maskOf k s = f k) (hval : ∀ k, maskOf k s' = stepF x xs (fun k => maskOf k s) k) (hch : ch = false ↔ ∀ k, maskOf k s' = maskOf k s)
    (hw : WorldIs w4 wb fp1 p1) (hg : ∀ j ∈ fp1, j ∈ fp ∨ wr.heap.size ≤ j) (hfr : Fr (fun j => j = mb ∨ j = wb) wr w4) : Mid wr w4 mb wb fp x xs f ch s' fp1 p1 := by
  have e : (fun k => maskOf k s) = f := funext hf
  subst e
  refine ⟨hset, hval, ?_, hw, hg, hfr⟩
  rw [hch]
  constructor
  · intro h k; rw [← hval]; exact h k
  · intro h k; rw [hval]; exact h k

theorem look_perm {κ ν : Type} [DecidableEq κ] {l m : List (κ × ν)} (h : l.Perm m) (hm : (keys m).Nodup) {k : κ} : look k l = look k m := by
  have hl : (keys l).Nodup := (h.map _).nodup_iff.2 hm
  cases e : look k m with
  | none => exact look_none.2 (fun hk => look_none.1 e ((h.map _).mem_iff.1 hk))
  | some v => exact mem_look hl (h.mem_iff.2 (look_mem e))

theorem toldCells (w : World) (ch : Bool) (v : Value) : ∀ j u, (encT ⟨ch, v⟩)[j]? = some u → (w.alloc (.cells #[.bool ch, v] 37)).cell? ⟨w.heap.size, j, none⟩ = some u := by
  intro j u hj
  match j, hj with
  | 0, hj => simp [encT] at hj; subst hj; simp
  | 1, hj => simp [encT] at hj; subst hj; simp
  | j + 2, hj => simp [encT] at hj

theorem toldOne (ch : Bool) (a : Option Addr) (n c : Nat) : ∀ u ∈ encT ⟨ch, .slice a n c⟩, u.oneCell' = true := by
  intro u hu; simp [encT] at hu; rcases hu with rfl | rfl <;> rfl

theorem mask_round {w wr w4 w5 w6 : World} {f0 F : BitVec 32 → BitVec 16} {wb mb : Nat} {st : List (Step × LM)} {oa a5 a6 : Option Addr} {oc c5 c6 : Nat} {fp fp1 : List Nat} {p p1 : Nat → Option Nat} {s s' l5 xs : LM} {ts : List Told} {X : Step} {ch : Bool}
    (hwb : wb = w.heap.size) (H : MRel w f0 wb mb st ts.length oa oc wr fp p s ts) (hM : Mid wr w4 mb wb fp X xs F ch s' fp1 p1) (htake : st.take (ts.length + 1) = st.take ts.length ++ [(X, xs)]) (hF : F = lastF f0 (st.take ts.length))
    (hp5 : l5.Perm s') (hlc5 : l5.length ≤ c5) (hR5 : RdS w5 a5 2 encL l5) (hnew5 : ∀ p : Addr, a5 = some p → w4.heap.size ≤ p.block ∧ p.block < w5.heap.size) (hf5 : Fr Non w4 w5)
    (hO6 : Own w6 w.heap.size 37 2 encT (.slice a6 (ts.length + 1) c6) (ts ++ [⟨ch, .slice a5 l5.length c5⟩]))
    (hf6 : Fr (fun i => oa.map (·.block) = some i) (w5.alloc (.cells #[.bool ch, .slice a5 l5.length c5] 37)) w6)
    (hl6 : a6.map (·.block) = oa.map (·.block) ∨ a6.map (·.block) = some (w5.alloc (.cells #[.bool ch, .slice a5 l5.length c5] 37)).heap.size) :
    MRel w f0 wb mb st (ts.length + 1) a6 c6 w6 fp1 p1 s' (ts ++ [⟨ch, .slice a5 l5.length c5⟩]) := by
  have hz : (w5.alloc (.cells #[.bool ch, .slice a5 l5.length c5] 37)).heap.size = w5.heap.size + 1 := by simp
  have h4 := hM.fr.size
  have h5 := hf5.size
  have h6 := hf6.size
  have h3 := H.fr.size
  have hmb := H.set.lt
  have hoa : ∀ b, oa.map (·.block) = some b → b < wr.heap.size := fun b hb => (H.out.lt b (by rw [ownBlock_slice]; exact hb)).2
  have hoaf : ∀ b, oa.map (·.block) = some b → b ∉ fp1 := fun b hb hj => by
    rcases hM.grow b hj with h | h
    · exact (H.outApart b hb).2 h
    · have := hoa b hb; omega
  have hmf : mb ∉ fp1 := fun hj => by
    rcases hM.grow mb hj with h | h
    · exact H.mbNew.2 h
    · omega
  have hg : Fr Non w5 (w5.alloc (.cells #[.bool ch, .slice a5 l5.length c5] 37)) := (Fr.refl Non w5).alloc _
  have hw4 := hM.world.inside
  refine ⟨((hM.world.fr hf5 (fun _ _ h => h)).fr hg (fun _ _ h => h)).fr hf6 (fun j hj e => hoaf j e hj), ?_, ((hM.set.fr hf5 (fun h => h)).fr hg (fun h => h)).fr hf6 (fun e => (H.outApart mb e).1 rfl), ⟨H.mbNew.1, hmf⟩, ?_, hO6, ?_, ?_, ?_⟩
  · intro j hj
    rcases hM.grow j hj with h | h
    · exact H.new j h
    · omega
  · intro k; rw [htake, last_snoc, hM.val, hF]
  · intro b hb
    rcases hl6 with h | h
    · rw [h] at hb; exact ⟨(H.outApart b hb).1, hoaf b hb⟩
    · rw [h] at hb; cases hb
      refine ⟨by omega, fun hj => ?_⟩
      have := hw4 _ hj; omega
  · rw [htake]
    have t1 := Trace.fr (S := fun j => j = mb ∨ j = wb) (Ok' := fun b => w.heap.size ≤ b ∧ b ≠ mb ∧ b ∉ fp ∧ oa.map (·.block) ≠ some b ∧ b < wr.heap.size) hM.fr (fun i hi e => by
      rcases e with rfl | rfl
      · exact hi.2.1 rfl
      · exact hi.2.2.1 H.world.self) (fun _ h => h) H.told
    have t2 := Trace.fr (Ok' := fun b => w.heap.size ≤ b ∧ b ≠ mb ∧ b ∉ fp ∧ oa.map (·.block) ≠ some b ∧ b < wr.heap.size) (hf5.andThen hg) (fun _ _ h => h) (fun _ h => h) t1
    have t3 := Trace.fr (Ok' := fun b => w.heap.size ≤ b ∧ b ≠ mb ∧ b ∉ fp1 ∧ a6.map (·.block) ≠ some b ∧ b < w6.heap.size) hf6 (fun i hi e => hi.2.2.2.1 e) (fun i hi => by
      refine ⟨hi.1, hi.2.1, fun hj => ?_, fun e => ?_, by omega⟩
      · rcases hM.grow i hj with h | h
        · exact hi.2.2.1 h
        · omega
      · rcases hl6 with h | h
        · rw [h] at e; exact hi.2.2.2.1 e
        · rw [h] at e; simp at e; omega) t2
    refine t3.snoc ⟨?_, fun k => ?_, ?_⟩ hlc5 ((hR5.fr hg (fun _ => rfl) (by omega) (fun _ _ h => h)).fr hf6 (fun _ => rfl) (by omega) (fun p hp e => ?_)) (fun p hp => ?_)
    · exact (hp5.map _).nodup_iff.2 hM.set.nodup
    · rw [← hF, ← hM.val]
      have hn := hM.set.nodup
      unfold maskOf getZ
      rw [look_perm hp5 hn]
    · rw [← hF]; exact hM.same
    · have := hnew5 p hp; have := hoa _ e; omega
    · obtain ⟨g1, g2⟩ := hnew5 p hp
      refine ⟨by omega, by omega, fun hj => ?_, fun e => ?_, by omega⟩
      · have := hw4 _ hj; omega
      · rcases hl6 with h | h
        · rw [h] at e; have := hoa _ e; omega
        · rw [h] at e; simp at e; omega
  · refine ((H.fr.then hM.fr (fun i hi e => ?_)).andThen (hf5.andThen hg)).then hf6 (fun i hi e => ?_)
    · have := H.mbNew.1
      rcases e with rfl | rfl <;> omega
    · have := (H.out.lt i (by rw [ownBlock_slice]; exact e)).1; omega

set_option maxRecDepth 100000 in
set_option maxHeartbeats 4000000 in
theorem Masks_c (w : World) (fa : Option Addr) (fn fc : Nat) (fl : LM) (a : Option Addr) (n c : Nat) (st : List (Step × LM)) (hfn : fl.length = fn) (hfR : RdS w fa 2 encL fl) (hfb : fn ≤ 4294967296)
    (hn : st.length = n) (hb : n ≤ 2147483647) (hR : StepsRd w a st) :
    Calls Tryz.prog 9 #[.slice fa fn fc, .slice a n c] w fun e w' => ∃ oa oc ts, e = .returned (.slice oa n oc) ∧ n ≤ oc ∧ RdS w' oa 2 encT ts ∧ ts.length = n ∧ (∀ p : Addr, oa = some p → w.heap.size ≤ p.block) ∧
      Trace w' (fun b => w.heap.size ≤ b) (fun k => maskOf k (ofL fl)) st ts ∧ Fr Non w w' := by
  have Hn := Lib.hid hn
  clear hn
  go_enter Tryz.func9, Tryz.ntmps9
  go_wp2_with (first | (go_at_call 17; refine (newWorld_c _).mono ?_; rintro e w1 ⟨rfl, hW, hf1⟩) | (go_at_call 18; go_must (refine (masks_c _ fa fn fc fl hfn (hfR.fr hf1 (fun _ => rfl) (by omega) (fun _ _ h => h)) hfb).mono ?_; rintro e w2 ⟨mb, rfl, hmb, hS, hf2⟩)))
  have hlt := hW.lt
  have hst := hR
  go_loopg [7, 20] n (fun g s7 s20 wr => ∃ (i oc : Nat) (oa : Option Addr), i ≤ n ∧ g = n - i ∧ s20 = .int .i64 i ∧ s7 = .slice oa i oc ∧ ∃ fp p s ts, MRel w (fun k => maskOf k (ofL fl)) w.heap.size mb st i oa oc wr fp p s ts)
  case atStart =>
    refine ⟨0, 0, none, Nat.zero_le _, rfl, rfl, rfl, [w.heap.size], _, _, [], ⟨hW.fr hf2 (fun _ _ h => h), by simp, hS, ⟨by have := hf1.size; omega, by simp; omega⟩, fun k => rfl, Own.nil _ _ _ _ _, by simp, trivial, hf1.andThen hf2⟩⟩
  case round =>
    obtain ⟨i, oc, oa, hi, rfl, rfl, rfl, fp, p, s, ts, H⟩ := hrel
    obtain rfl : i = ts.length := by
      have := H.told.len
      rw [List.length_take, Hn.out] at this
      omega
    by_cases hlt : ts.length < n
    · have hi' : ts.length < st.length := by rw [Hn.out]; exact hlt
      obtain ⟨hR1, hR2⟩ := hR.fr H.fr
      obtain ⟨blk, off, rfl, hc⟩ := hR1 (fun e => by rw [e] at hi'; simp at hi')
      have hcs := hc ts.length hi'
      obtain ⟨sa, sc, hset, hRs, hsl⟩ := hR2 st[ts.length] (List.getElem_mem hi')
      have htake : st.take (ts.length + 1) = st.take ts.length ++ [(st[ts.length].1, st[ts.length].2)] := List.take_succ_eq_append_getElem hi'
      generalize st[ts.length] = q at *
      obtain ⟨⟨dop, id, mask, ⟨rv, rk, ri, rs⟩, set⟩, xs⟩ := q
      simp only at hset
      subst hset
      have c0 := hcs 0 (by omega)
      have c1 := hcs 1 (by omega)
      have c2 := hcs 2 (by omega)
      have c3 := hcs 3 (by omega)
      have c4 := hcs 4 (by omega)
      have c5 := hcs 5 (by omega)
      have c6 := hcs 6 (by omega)
      have c7 := hcs 7 (by omega)
      simp only [encStep, List.getElem?_cons_zero, List.getElem?_cons_succ, Nat.add_zero] at c0 c1 c2 c3 c4 c5 c6 c7
      clear hc hcs hR hR1 hR2 hfR hst
      have hA : Fr Non wr (wr.alloc (.cells #[.int .i64 dop, u32v id, u16v mask, .bool rv, u8v rk, u16v ri, u16v rs, .slice sa xs.length sc] 29)) := (Fr.refl _ _).alloc _
      have hS1 := H.set.fr hA (fun h => h)
      have hW1 := H.world.fr hA (fun _ _ h => h)
      have hRs1 : RdS _ sa 2 encL xs := hRs.fr hA (fun _ => rfl) (by omega) (fun _ _ h => h)
      obtain ⟨F, hF⟩ : ∃ F, F = lastF (fun k => maskOf k (ofL fl)) (st.take ts.length) := ⟨_, rfl⟩
      have Hval : RowKit.Hid (∀ k, maskOf k s = F k) := Lib.hid (hF ▸ H.val)
      have HF := Lib.hid hF
      have Htake := Lib.hid htake
      have hsl' : xs.length ≤ 4294967296 := hsl
      have hmlt := H.set.lt
      have hne : ¬ mb = w.heap.size := fun e => H.mbNew.2 (e ▸ H.world.self)
      have HOS : RowKit.Hid (∀ j, (Value.slice oa ts.length oc).ownBlock = some j → ¬ (j = mb ∨ j = w.heap.size)) := Lib.hid (fun j hj e => by
        rw [ownBlock_slice] at hj
        rcases e with rfl | rfl
        · exact (H.outApart _ hj).1 rfl
        · exact (H.outApart _ hj).2 H.world.self)
      have HH := Lib.hid H
      have hin := H.world.inside
      have hmf := H.mbNew.2
      have hz : (wr.alloc (.cells #[.int .i64 dop, u32v id, u16v mask, .bool rv, u8v rk, u16v ri, u16v rs, .slice sa xs.length sc] 29)).heap.size = wr.heap.size + 1 := by simp
      clear hF H htake hRs hsl
      by_cases h0 : dop = 0
      · subst h0
        go_upto_region 24 with (go_at_call 19; go_must (refine (Add_s _ mb s id mask hS1).mono ?_; rintro e w4 ⟨ch, s', rfl, hS', hv', hc', hf'⟩))
        have hM : Mid wr w4 mb w.heap.size fp ⟨0, id, mask, ⟨rv, rk, ri, rs⟩, .slice sa xs.length sc⟩ xs F ch s' fp p := by
          refine Mid.of hS' Hval.out (fun k => ?_) (by rw [hc']; simp only [hv']) (hW1.fr hf' (fun j hj e => ?_)) (fun j hj => .inl hj) ((hA.mono (fun _ _ h => h.elim)).andThen (hf'.mono (fun _ _ h => .inl h)))
          · rw [hv']; simp only [stepF, addG, if_true]; split
            · rename_i e; rw [e]
            · rfl
          · subst e; exact hmf hj
        have HM := Lib.hid hM
        clear hM hS' hv' hc' hf' hS1 hW1 hRs1 hA hz
        have hM := HM.out
        have hS4 := hM.set
        go_wp2_with (first
          | (go_at_call 26; go_must (refine (plainMasks_c _ mb s' hS4).mono ?_; rintro e w5 ⟨v5, l5, rfl, ⟨a5, c5', rfl, hlc5, hR5, hnew5⟩, hp5, hf5⟩; have HO5 := Lib.hid ((((HH.out.out.fr HM.out.fr HOS.out).fr hf5 (fun _ _ h => h)).fr ((Fr.refl Non w5).alloc (.cells #[.bool ch, .slice a5 l5.length c5'] 37)) (fun _ _ h => h))); have HY := Lib.hid (toldCells w5 ch (.slice a5 l5.length c5'))))
          | (at_builtin; go_must (refine wl_app rfl _ _ _ rfl elemTold HO5.out rfl w5.heap.size 1 ⟨ch, .slice a5 l5.length c5'⟩ rfl (fun _ => rfl) HY.out (toldOne ch a5 l5.length c5') (by omega) (by omega) (by have h5 := hf5.size; have h4 := HM.out.fr.size; have h3 := HH.out.fr.size; simp; omega) ?_; intro a6 c6 w6 hO6 hf6 hl6)))
        have hrel2 := mask_round rfl HH.out HM.out Htake.out HF.out hp5 hlc5 hR5 hnew5 hf5 hO6 hf6 hl6
        go_roundg (n - (ts.length + 1))
        case measure => omega
        case rel =>
          have hl7 : (ts ++ [(⟨ch, .slice a5 l5.length c5'⟩ : Told)]).length = ts.length + 1 := by simp
          exact ⟨ts.length + 1, c6, a6, by omega, rfl, by go_num, rfl, fp, p, s', _, hrel2⟩
      · skip
        by_cases h1 : dop = 1
        · subst h1
          go_upto_region 24 with (go_at_call 20; go_must (refine (Discard_s _ mb s id mask hS1).mono ?_; rintro e w4 ⟨ch, s', rfl, hS', hv', hc', hf'⟩))
          have hM : Mid wr w4 mb w.heap.size fp ⟨1, id, mask, ⟨rv, rk, ri, rs⟩, .slice sa xs.length sc⟩ xs F ch s' fp p := by
            refine Mid.of hS' Hval.out (fun k => ?_) (by rw [hc']; simp only [hv']) (hW1.fr hf' (fun j hj e => ?_)) (fun j hj => .inl hj) ((hA.mono (fun _ _ h => h.elim)).andThen (hf'.mono (fun _ _ h => .inl h)))
            · rw [hv']; simp only [stepF, discG]; split
              · rename_i e; rw [e]; rfl
              · rfl
            · subst e; exact hmf hj
          have HM := Lib.hid hM
          clear hM hS' hv' hc' hf' hS1 hW1 hRs1 hA hz
          have hM := HM.out
          have hS4 := hM.set
          go_wp2_with (first
            | (go_at_call 26; go_must (refine (plainMasks_c _ mb s' hS4).mono ?_; rintro e w5 ⟨v5, l5, rfl, ⟨a5, c5', rfl, hlc5, hR5, hnew5⟩, hp5, hf5⟩; have HO5 := Lib.hid ((((HH.out.out.fr HM.out.fr HOS.out).fr hf5 (fun _ _ h => h)).fr ((Fr.refl Non w5).alloc (.cells #[.bool ch, .slice a5 l5.length c5'] 37)) (fun _ _ h => h))); have HY := Lib.hid (toldCells w5 ch (.slice a5 l5.length c5'))))
            | (at_builtin; go_must (refine wl_app rfl _ _ _ rfl elemTold HO5.out rfl w5.heap.size 1 ⟨ch, .slice a5 l5.length c5'⟩ rfl (fun _ => rfl) HY.out (toldOne ch a5 l5.length c5') (by omega) (by omega) (by have h5 := hf5.size; have h4 := HM.out.fr.size; have h3 := HH.out.fr.size; simp; omega) ?_; intro a6 c6 w6 hO6 hf6 hl6)))
          have hrel2 := mask_round rfl HH.out HM.out Htake.out HF.out hp5 hlc5 hR5 hnew5 hf5 hO6 hf6 hl6
          go_roundg (n - (ts.length + 1))
          case measure => omega
          case rel =>
            have hl7 : (ts ++ [(⟨ch, .slice a5 l5.length c5'⟩ : Told)]).length = ts.length + 1 := by simp
            exact ⟨ts.length + 1, c6, a6, by omega, rfl, by go_num, rfl, fp, p, s', _, hrel2⟩
        · skip
          by_cases h2 : dop = 2
          · subst h2
            by_cases hreg : isReg ⟨rv, rk, ri, rs⟩ = true
            · go_upto_region 24 with (first
                | (go_at_call 21; go_must (refine (wreg_c _ w.heap.size fp p ⟨rv, rk, ri, rs⟩ hW1).mono ?_; rintro e w3 ⟨v, fp1, p1, rfl, hW3, hg3, hf3, hv3⟩; obtain ⟨t, x, rfl, hR3⟩ := hv3 hreg))
                | (go_at_call 22; go_must (refine (AddRegister_c _ mb s ⟨rv, rk, ri, rs⟩ t x (hS1.fr hf3 hne) hR3).mono ?_; rintro e w4 ⟨ch, s', rfl, hS', hv', hc', hf'⟩)))
              have hM : Mid wr w4 mb w.heap.size fp ⟨2, id, mask, ⟨rv, rk, ri, rs⟩, .slice sa xs.length sc⟩ xs F ch s' fp1 p1 := by
                refine Mid.of hS' Hval.out (fun k => ?_) (by rw [hc']; simp only [hv']) (hW3.fr hf' (fun j hj e => ?_)) (fun j hj => (hg3 j hj).imp (fun h => h) (fun h => by omega)) (((hA.mono (fun _ _ h => h.elim)).andThen (hf3.mono (fun _ _ h => .inr h))).andThen (hf'.mono (fun _ _ h => .inl h)))
                · rw [hv']; simp only [stepF, addG, hreg, if_true]; split
                  · rename_i e; rw [e]
                  · rfl
                · subst e; rcases hg3 j hj with h | h
                  · exact hmf h
                  · omega
              have HM := Lib.hid hM
              clear hM hS' hv' hc' hf' hS1 hW1 hRs1 hA hW3 hg3 hf3 hv3 hz
              have hM := HM.out
              have hS4 := hM.set
              go_wp2_with (first
                | (go_at_call 26; go_must (refine (plainMasks_c _ mb s' hS4).mono ?_; rintro e w5 ⟨v5, l5, rfl, ⟨a5, c5', rfl, hlc5, hR5, hnew5⟩, hp5, hf5⟩; have HO5 := Lib.hid ((((HH.out.out.fr HM.out.fr HOS.out).fr hf5 (fun _ _ h => h)).fr ((Fr.refl Non w5).alloc (.cells #[.bool ch, .slice a5 l5.length c5'] 37)) (fun _ _ h => h))); have HY := Lib.hid (toldCells w5 ch (.slice a5 l5.length c5'))))
                | (at_builtin; go_must (refine wl_app rfl _ _ _ rfl elemTold HO5.out rfl w5.heap.size 1 ⟨ch, .slice a5 l5.length c5'⟩ rfl (fun _ => rfl) HY.out (toldOne ch a5 l5.length c5') (by omega) (by omega) (by have h5 := hf5.size; have h4 := HM.out.fr.size; have h3 := HH.out.fr.size; simp; omega) ?_; intro a6 c6 w6 hO6 hf6 hl6)))
              have hrel2 := mask_round rfl HH.out HM.out Htake.out HF.out hp5 hlc5 hR5 hnew5 hf5 hO6 hf6 hl6
              go_roundg (n - (ts.length + 1))
              case measure => omega
              case rel =>
                have hl7 : (ts ++ [(⟨ch, .slice a5 l5.length c5'⟩ : Told)]).length = ts.length + 1 := by simp
                exact ⟨ts.length + 1, c6, a6, by omega, rfl, by go_num, rfl, fp1, p1, s', _, hrel2⟩
            · have hregf : isReg ⟨rv, rk, ri, rs⟩ = false := by simpa using hreg
              go_upto_region 24 with (go_at_call 21; go_must (refine (wreg_c _ w.heap.size fp p ⟨rv, rk, ri, rs⟩ hW1).mono ?_; rintro e w4 ⟨v, fp1, p1, rfl, hW3, hg3, hf3, hv3⟩))
              have hM : Mid wr w4 mb w.heap.size fp ⟨2, id, mask, ⟨rv, rk, ri, rs⟩, .slice sa xs.length sc⟩ xs F false s fp1 p1 := by
                refine Mid.of (hS1.fr hf3 hne) Hval.out (fun k => ?_) (by simp) hW3 (fun j hj => (hg3 j hj).imp (fun h => h) (fun h => by omega)) ((hA.mono (fun _ _ h => h.elim)).andThen (hf3.mono (fun _ _ h => .inr h)))
                simp [stepF, hregf]
              have HM := Lib.hid hM
              clear hM hS1 hW1 hRs1 hA hW3 hg3 hf3 hv3 hz
              have hM := HM.out
              have hS4 := hM.set
              go_wp2_with (first
                | (go_at_call 26; go_must (refine (plainMasks_c _ mb s hS4).mono ?_; rintro e w5 ⟨v5, l5, rfl, ⟨a5, c5', rfl, hlc5, hR5, hnew5⟩, hp5, hf5⟩; have HO5 := Lib.hid ((((HH.out.out.fr HM.out.fr HOS.out).fr hf5 (fun _ _ h => h)).fr ((Fr.refl Non w5).alloc (.cells #[.bool false, .slice a5 l5.length c5'] 37)) (fun _ _ h => h))); have HY := Lib.hid (toldCells w5 false (.slice a5 l5.length c5'))))
                | (at_builtin; go_must (refine wl_app rfl _ _ _ rfl elemTold HO5.out rfl w5.heap.size 1 ⟨false, .slice a5 l5.length c5'⟩ rfl (fun _ => rfl) HY.out (toldOne false a5 l5.length c5') (by omega) (by omega) (by have h5 := hf5.size; have h4 := HM.out.fr.size; have h3 := HH.out.fr.size; simp; omega) ?_; intro a6 c6 w6 hO6 hf6 hl6)))
              have hrel2 := mask_round rfl HH.out HM.out Htake.out HF.out hp5 hlc5 hR5 hnew5 hf5 hO6 hf6 hl6
              go_roundg (n - (ts.length + 1))
              case measure => omega
              case rel =>
                have hl7 : (ts ++ [(⟨false, .slice a5 l5.length c5'⟩ : Told)]).length = ts.length + 1 := by simp
                exact ⟨ts.length + 1, c6, a6, by omega, rfl, by go_num, rfl, fp1, p1, s, _, hrel2⟩
          · skip
            by_cases h3 : dop = 3
            · subst h3
              by_cases hreg : isReg ⟨rv, rk, ri, rs⟩ = true
              · go_upto_region 24 with (first
                  | (go_at_call 21; go_must (refine (wreg_c _ w.heap.size fp p ⟨rv, rk, ri, rs⟩ hW1).mono ?_; rintro e w3 ⟨v, fp1, p1, rfl, hW3, hg3, hf3, hv3⟩; obtain ⟨t, x, rfl, hR3⟩ := hv3 hreg))
                  | (go_at_call 23; go_must (refine (DiscardRegister_c _ mb s ⟨rv, rk, ri, rs⟩ t x (hS1.fr hf3 hne) hR3).mono ?_; rintro e w4 ⟨ch, s', rfl, hS', hv', hc', hf'⟩)))
                have hM : Mid wr w4 mb w.heap.size fp ⟨3, id, mask, ⟨rv, rk, ri, rs⟩, .slice sa xs.length sc⟩ xs F ch s' fp1 p1 := by
                  refine Mid.of hS' Hval.out (fun k => ?_) (by rw [hc']; simp only [hv']) (hW3.fr hf' (fun j hj e => ?_)) (fun j hj => (hg3 j hj).imp (fun h => h) (fun h => by omega)) (((hA.mono (fun _ _ h => h.elim)).andThen (hf3.mono (fun _ _ h => .inr h))).andThen (hf'.mono (fun _ _ h => .inl h)))
                  · rw [hv']; simp only [stepF, discG, hreg, if_true]; split
                    · rename_i e; rw [e]
                    · rfl
                  · subst e; rcases hg3 j hj with h | h
                    · exact hmf h
                    · omega
                have HM := Lib.hid hM
                clear hM hS' hv' hc' hf' hS1 hW1 hRs1 hA hW3 hg3 hf3 hv3 hz
                have hM := HM.out
                have hS4 := hM.set
                go_wp2_with (first
                  | (go_at_call 26; go_must (refine (plainMasks_c _ mb s' hS4).mono ?_; rintro e w5 ⟨v5, l5, rfl, ⟨a5, c5', rfl, hlc5, hR5, hnew5⟩, hp5, hf5⟩; have HO5 := Lib.hid ((((HH.out.out.fr HM.out.fr HOS.out).fr hf5 (fun _ _ h => h)).fr ((Fr.refl Non w5).alloc (.cells #[.bool ch, .slice a5 l5.length c5'] 37)) (fun _ _ h => h))); have HY := Lib.hid (toldCells w5 ch (.slice a5 l5.length c5'))))
                  | (at_builtin; go_must (refine wl_app rfl _ _ _ rfl elemTold HO5.out rfl w5.heap.size 1 ⟨ch, .slice a5 l5.length c5'⟩ rfl (fun _ => rfl) HY.out (toldOne ch a5 l5.length c5') (by omega) (by omega) (by have h5 := hf5.size; have h4 := HM.out.fr.size; have h3 := HH.out.fr.size; simp; omega) ?_; intro a6 c6 w6 hO6 hf6 hl6)))
                have hrel2 := mask_round rfl HH.out HM.out Htake.out HF.out hp5 hlc5 hR5 hnew5 hf5 hO6 hf6 hl6
                go_roundg (n - (ts.length + 1))
                case measure => omega
                case rel =>
                  have hl7 : (ts ++ [(⟨ch, .slice a5 l5.length c5'⟩ : Told)]).length = ts.length + 1 := by simp
                  exact ⟨ts.length + 1, c6, a6, by omega, rfl, by go_num, rfl, fp1, p1, s', _, hrel2⟩
              · have hregf : isReg ⟨rv, rk, ri, rs⟩ = false := by simpa using hreg
                go_upto_region 24 with (go_at_call 21; go_must (refine (wreg_c _ w.heap.size fp p ⟨rv, rk, ri, rs⟩ hW1).mono ?_; rintro e w4 ⟨v, fp1, p1, rfl, hW3, hg3, hf3, hv3⟩))
                have hM : Mid wr w4 mb w.heap.size fp ⟨3, id, mask, ⟨rv, rk, ri, rs⟩, .slice sa xs.length sc⟩ xs F false s fp1 p1 := by
                  refine Mid.of (hS1.fr hf3 hne) Hval.out (fun k => ?_) (by simp) hW3 (fun j hj => (hg3 j hj).imp (fun h => h) (fun h => by omega)) ((hA.mono (fun _ _ h => h.elim)).andThen (hf3.mono (fun _ _ h => .inr h)))
                  simp [stepF, hregf]
                have HM := Lib.hid hM
                clear hM hS1 hW1 hRs1 hA hW3 hg3 hf3 hv3 hz
                have hM := HM.out
                have hS4 := hM.set
                go_wp2_with (first
                  | (go_at_call 26; go_must (refine (plainMasks_c _ mb s hS4).mono ?_; rintro e w5 ⟨v5, l5, rfl, ⟨a5, c5', rfl, hlc5, hR5, hnew5⟩, hp5, hf5⟩; have HO5 := Lib.hid ((((HH.out.out.fr HM.out.fr HOS.out).fr hf5 (fun _ _ h => h)).fr ((Fr.refl Non w5).alloc (.cells #[.bool false, .slice a5 l5.length c5'] 37)) (fun _ _ h => h))); have HY := Lib.hid (toldCells w5 false (.slice a5 l5.length c5'))))
                  | (at_builtin; go_must (refine wl_app rfl _ _ _ rfl elemTold HO5.out rfl w5.heap.size 1 ⟨false, .slice a5 l5.length c5'⟩ rfl (fun _ => rfl) HY.out (toldOne false a5 l5.length c5') (by omega) (by omega) (by have h5 := hf5.size; have h4 := HM.out.fr.size; have h3 := HH.out.fr.size; simp; omega) ?_; intro a6 c6 w6 hO6 hf6 hl6)))
                have hrel2 := mask_round rfl HH.out HM.out Htake.out HF.out hp5 hlc5 hR5 hnew5 hf5 hO6 hf6 hl6
                go_roundg (n - (ts.length + 1))
                case measure => omega
                case rel =>
                  have hl7 : (ts ++ [(⟨false, .slice a5 l5.length c5'⟩ : Told)]).length = ts.length + 1 := by simp
                  exact ⟨ts.length + 1, c6, a6, by omega, rfl, by go_num, rfl, fp1, p1, s, _, hrel2⟩
            · skip
              by_cases h4 : dop = 4
              · subst h4
                go_upto_region 24 with (first
                  | (go_at_call 18; go_must (refine (masks_c _ sa xs.length sc xs rfl hRs1 hsl').mono ?_; rintro e w3 ⟨b3, rfl, hb3, hS3, hf3⟩))
                  | (go_at_call 24; go_must (refine (Update_c _ mb b3 s (ofL xs) (by omega) (hS1.fr hf3 (fun h => h)) hS3).mono ?_; rintro e w4 ⟨ch, s', rfl, hS', hv', hc', hf'⟩)))
                have hM : Mid wr w4 mb w.heap.size fp ⟨4, id, mask, ⟨rv, rk, ri, rs⟩, .slice sa xs.length sc⟩ xs F ch s' fp p := by
                  refine Mid.of hS' Hval.out (fun k => ?_) hc' ((hW1.fr hf3 (fun _ _ h => h)).fr hf' (fun j hj e => ?_)) (fun j hj => .inl hj) (((hA.mono (fun _ _ h => h.elim)).andThen (hf3.mono (fun _ _ h => h.elim))).andThen (hf'.mono (fun _ _ h => .inl h)))
                  · rw [hv']; simp [stepF]
                  · subst e; exact hmf hj
                have HM := Lib.hid hM
                clear hM hS' hv' hc' hf' hS1 hW1 hRs1 hA hS3 hf3 hz
                have hM := HM.out
                have hS4 := hM.set
                go_wp2_with (first
                  | (go_at_call 26; go_must (refine (plainMasks_c _ mb s' hS4).mono ?_; rintro e w5 ⟨v5, l5, rfl, ⟨a5, c5', rfl, hlc5, hR5, hnew5⟩, hp5, hf5⟩; have HO5 := Lib.hid ((((HH.out.out.fr HM.out.fr HOS.out).fr hf5 (fun _ _ h => h)).fr ((Fr.refl Non w5).alloc (.cells #[.bool ch, .slice a5 l5.length c5'] 37)) (fun _ _ h => h))); have HY := Lib.hid (toldCells w5 ch (.slice a5 l5.length c5'))))
                  | (at_builtin; go_must (refine wl_app rfl _ _ _ rfl elemTold HO5.out rfl w5.heap.size 1 ⟨ch, .slice a5 l5.length c5'⟩ rfl (fun _ => rfl) HY.out (toldOne ch a5 l5.length c5') (by omega) (by omega) (by have h5 := hf5.size; have h4 := HM.out.fr.size; have h3 := HH.out.fr.size; simp; omega) ?_; intro a6 c6 w6 hO6 hf6 hl6)))
                have hrel2 := mask_round rfl HH.out HM.out Htake.out HF.out hp5 hlc5 hR5 hnew5 hf5 hO6 hf6 hl6
                go_roundg (n - (ts.length + 1))
                case measure => omega
                case rel =>
                  have hl7 : (ts ++ [(⟨ch, .slice a5 l5.length c5'⟩ : Told)]).length = ts.length + 1 := by simp
                  exact ⟨ts.length + 1, c6, a6, by omega, rfl, by go_num, rfl, fp, p, s', _, hrel2⟩
              · skip
                by_cases h5 : dop = 5
                · subst h5
                  go_upto_region 24 with (first
                    | (go_at_call 18; go_must (refine (masks_c _ sa xs.length sc xs rfl hRs1 hsl').mono ?_; rintro e w3 ⟨b3, rfl, hb3, hS3, hf3⟩))
                    | (go_at_call 25; go_must (refine (DiffUpdate_c _ mb b3 s (ofL xs) (by omega) (hS1.fr hf3 (fun h => h)) hS3).mono ?_; rintro e w4 ⟨ch, s', rfl, hS', hv', hc', hf'⟩)))
                  have hM : Mid wr w4 mb w.heap.size fp ⟨5, id, mask, ⟨rv, rk, ri, rs⟩, .slice sa xs.length sc⟩ xs F ch s' fp p := by
                    refine Mid.of hS' Hval.out (fun k => ?_) hc' ((hW1.fr hf3 (fun _ _ h => h)).fr hf' (fun j hj e => ?_)) (fun j hj => .inl hj) (((hA.mono (fun _ _ h => h.elim)).andThen (hf3.mono (fun _ _ h => h.elim))).andThen (hf'.mono (fun _ _ h => .inl h)))
                    · rw [hv']; simp [stepF]
                    · subst e; exact hmf hj
                  have HM := Lib.hid hM
                  clear hM hS' hv' hc' hf' hS1 hW1 hRs1 hA hS3 hf3 hz
                  have hM := HM.out
                  have hS4 := hM.set
                  go_wp2_with (first
                    | (go_at_call 26; go_must (refine (plainMasks_c _ mb s' hS4).mono ?_; rintro e w5 ⟨v5, l5, rfl, ⟨a5, c5', rfl, hlc5, hR5, hnew5⟩, hp5, hf5⟩; have HO5 := Lib.hid ((((HH.out.out.fr HM.out.fr HOS.out).fr hf5 (fun _ _ h => h)).fr ((Fr.refl Non w5).alloc (.cells #[.bool ch, .slice a5 l5.length c5'] 37)) (fun _ _ h => h))); have HY := Lib.hid (toldCells w5 ch (.slice a5 l5.length c5'))))
                    | (at_builtin; go_must (refine wl_app rfl _ _ _ rfl elemTold HO5.out rfl w5.heap.size 1 ⟨ch, .slice a5 l5.length c5'⟩ rfl (fun _ => rfl) HY.out (toldOne ch a5 l5.length c5') (by omega) (by omega) (by have h5 := hf5.size; have h4 := HM.out.fr.size; have h3 := HH.out.fr.size; simp; omega) ?_; intro a6 c6 w6 hO6 hf6 hl6)))
                  have hrel2 := mask_round rfl HH.out HM.out Htake.out HF.out hp5 hlc5 hR5 hnew5 hf5 hO6 hf6 hl6
                  go_roundg (n - (ts.length + 1))
                  case measure => omega
                  case rel =>
                    have hl7 : (ts ++ [(⟨ch, .slice a5 l5.length c5'⟩ : Told)]).length = ts.length + 1 := by simp
                    exact ⟨ts.length + 1, c6, a6, by omega, rfl, by go_num, rfl, fp, p, s', _, hrel2⟩
                · go_upto_region 24 with fail
                  have hM : Mid wr (wr.alloc (.cells #[.int .i64 dop, u32v id, u16v mask, .bool rv, u8v rk, u16v ri, u16v rs, .slice sa xs.length sc] 29)) mb w.heap.size fp ⟨dop, id, mask, ⟨rv, rk, ri, rs⟩, .slice sa xs.length sc⟩ xs F false s fp p := by
                    refine Mid.of hS1 Hval.out (fun k => ?_) (by simp) hW1 (fun j hj => .inl hj) (hA.mono (fun _ _ h => h.elim))
                    simp [stepF, h0, h1, h2, h3, h4, h5]
                  generalize (wr.alloc (.cells #[.int .i64 dop, u32v id, u16v mask, .bool rv, u8v rk, u16v ri, u16v rs, .slice sa xs.length sc] 29)) = w4 at *
                  have HM := Lib.hid hM
                  clear hM hS1 hW1 hRs1 hA hz
                  have hM := HM.out
                  have hS4 := hM.set
                  go_wp2_with (first
                    | (go_at_call 26; go_must (refine (plainMasks_c _ mb s hS4).mono ?_; rintro e w5 ⟨v5, l5, rfl, ⟨a5, c5', rfl, hlc5, hR5, hnew5⟩, hp5, hf5⟩; have HO5 := Lib.hid ((((HH.out.out.fr HM.out.fr HOS.out).fr hf5 (fun _ _ h => h)).fr ((Fr.refl Non w5).alloc (.cells #[.bool false, .slice a5 l5.length c5'] 37)) (fun _ _ h => h))); have HY := Lib.hid (toldCells w5 false (.slice a5 l5.length c5'))))
                    | (at_builtin; go_must (refine wl_app rfl _ _ _ rfl elemTold HO5.out rfl w5.heap.size 1 ⟨false, .slice a5 l5.length c5'⟩ rfl (fun _ => rfl) HY.out (toldOne false a5 l5.length c5') (by omega) (by omega) (by have h5 := hf5.size; have h4 := HM.out.fr.size; have h3 := HH.out.fr.size; simp; omega) ?_; intro a6 c6 w6 hO6 hf6 hl6)))
                  have hrel2 := mask_round rfl HH.out HM.out Htake.out HF.out hp5 hlc5 hR5 hnew5 hf5 hO6 hf6 hl6
                  go_roundg (n - (ts.length + 1))
                  case measure => omega
                  case rel =>
                    have hl7 : (ts ++ [(⟨false, .slice a5 l5.length c5'⟩ : Told)]).length = ts.length + 1 := by simp
                    exact ⟨ts.length + 1, c6, a6, by omega, rfl, by go_num, rfl, fp, p, s, _, hrel2⟩
    · have hnl : ts.length = n := by omega
      subst hnl
      have hT := H.told
      have hO := H.out
      have hfr := H.fr
      have Hfull : RowKit.Hid (st.take ts.length = st) := Lib.hid (by rw [← Hn.out]; exact List.take_length)
      rw [Hfull.out] at hT
      obtain ⟨oa', oc', hv, hRo, hlc, _, hnew⟩ := hO.rd (fun _ => rfl)
      obtain ⟨rfl, rfl⟩ : oa = oa' ∧ oc = oc' := by cases hv; exact ⟨rfl, rfl⟩
      clear hv H hO
      go_wp2
      go_ret
      exact ⟨oa, oc, ts, rfl, hlc, hRo, rfl, fun p hp => (hnew p hp).1, hT.fr (Fr.refl Non _) (fun _ _ h => h) (fun i h => h.1), hfr⟩

end Go.Proofs.YtglamkopjjimjaaGreat
