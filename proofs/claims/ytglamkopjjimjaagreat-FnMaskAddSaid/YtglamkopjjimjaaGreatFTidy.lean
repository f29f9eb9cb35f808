/- The reference's sets: lists of entries by ascending numbers, without empty masks. -/
import Derived.Test.YtglamkopjjimjaaGreatFApp
import Derived.Deep.LoopGhost
import Derived.Deep.Cut
set_option linter.unusedVariables false
set_option linter.unusedSimpArgs false
namespace Go.Proofs.YtglamkopjjimjaaGreat
open Go.RowKit

/-! ### The plain law -/
def insL (id : BitVec 32) (m : BitVec 16) : LM → LM
  | [] => [(id, m)]
  | (a, v) :: l => if id.toNat ≤ a.toNat then (if a = id then (id, v ||| m) :: l else (id, m) :: (a, v) :: l) else (a, v) :: insL id m l

def TidyL (l : LM) : Prop := l.Pairwise (fun a b => a.1.toNat < b.1.toNat) ∧ ∀ p ∈ l, p.2 ≠ 0#16

theorem ins_skip (id : BitVec 32) (m : BitVec 16) : ∀ (xs ys : LM), (∀ p ∈ xs, p.1.toNat < id.toNat) → insL id m (xs ++ ys) = xs ++ insL id m ys
  | [], ys, _ => rfl
  | (a, v) :: xs, ys, h => by
    have h1 : a.toNat < id.toNat := h (a, v) (by simp)
    simp only [List.cons_append, insL]
    rw [if_neg (by omega), ins_skip id m xs ys (fun p hp => h p (by simp [hp]))]

theorem TidyL.nodup {l : LM} (h : TidyL l) : (keys l).Nodup := by
  unfold keys
  rw [List.nodup_iff_pairwise_ne, List.pairwise_map]
  exact h.1.imp (fun h e => by rw [e] at h; omega)

theorem TidyL.tail {p : BitVec 32 × BitVec 16} {l : LM} (h : TidyL (p :: l)) : TidyL l ∧ ∀ q ∈ l, p.1.toNat < q.1.toNat :=
  ⟨⟨(List.pairwise_cons.1 h.1).2, fun q hq => h.2 q (by simp [hq])⟩, (List.pairwise_cons.1 h.1).1⟩

theorem TidyL.cons {p : BitVec 32 × BitVec 16} {l : LM} (h : TidyL l) (hp : p.2 ≠ 0#16) (hl : ∀ q ∈ l, p.1.toNat < q.1.toNat) : TidyL (p :: l) :=
  ⟨List.pairwise_cons.2 ⟨hl, h.1⟩, fun q hq => by rcases List.mem_cons.1 hq with rfl | hq; exact hp; exact h.2 q hq⟩

theorem or_ne_zero {a b : BitVec 16} (h : b ≠ 0#16) : a ||| b ≠ 0#16 := fun e => h (by
  have : (a ||| b) &&& b = b := by
    ext i; simp only [BitVec.getElem_and, BitVec.getElem_or]; cases a[i] <;> cases b[i] <;> rfl
  rw [e] at this; simpa using this.symm)

theorem ins_mem {id : BitVec 32} {m : BitVec 16} : ∀ {l : LM} {p : BitVec 32 × BitVec 16}, p ∈ insL id m l → p.1 = id ∨ p ∈ l
  | [], p, h => by simp [insL] at h; exact .inl (by rw [h])
  | (a, v) :: l, p, h => by
    simp only [insL] at h
    split at h
    · split at h
      · rcases List.mem_cons.1 h with h | h
        · exact .inl (by rw [h])
        · exact .inr (by simp [h])
      · rcases List.mem_cons.1 h with h | h
        · exact .inl (by rw [h])
        · exact .inr h
    · rcases List.mem_cons.1 h with h | h
      · exact .inr (by simp [h])
      · rcases ins_mem h with h | h
        · exact .inl h
        · exact .inr (by simp [h])

theorem ins_tidy {id : BitVec 32} {m : BitVec 16} (hm : m ≠ 0#16) : ∀ {l : LM}, TidyL l → TidyL (insL id m l)
  | [], _ => by refine ⟨by simp [insL], fun p hp => ?_⟩; simp [insL] at hp; rw [hp]; exact hm
  | (a, v) :: l, h => by
    obtain ⟨h1, h2⟩ := h.tail
    simp only [insL]
    split
    · split
      · rename_i e; subst e; exact h1.cons (or_ne_zero hm) h2
      · rename_i hle hne
        have hlt : id.toNat < a.toNat := by
          have : id.toNat ≠ a.toNat := fun e => hne (BitVec.eq_of_toNat_eq e.symm)
          omega
        refine h.cons hm (fun q hq => ?_)
        rcases List.mem_cons.1 hq with rfl | hq
        · exact hlt
        · have := h2 q hq; simp only at this ⊢; omega
    · rename_i hle
      refine (ins_tidy hm h1).cons (h.2 (a, v) (by simp)) (fun q hq => ?_)
      rcases ins_mem hq with e | hq
      · rw [e]; simp only; omega
      · exact h2 q hq

theorem mask_cons (k a : BitVec 32) (v : BitVec 16) (l : LM) : maskOf k ((a, v) :: l) = if k = a then v else maskOf k l := by
  simp only [maskOf, getZ, look]; split <;> rfl

theorem mask_low {k : BitVec 32} : ∀ {l : LM}, (∀ q ∈ l, k.toNat < q.1.toNat) → maskOf k l = 0#16
  | [], _ => rfl
  | (a, v) :: l, h => by
    have := h (a, v) (by simp)
    rw [mask_cons, if_neg (fun e => by subst e; simp at this), mask_low (fun q hq => h q (by simp [hq]))]

theorem ins_mask {id : BitVec 32} {m : BitVec 16} : ∀ {l : LM}, TidyL l → ∀ k, maskOf k (insL id m l) = if k = id then maskOf id l ||| m else maskOf k l
  | [], _, k => by simp only [insL, mask_cons]; split <;> simp [maskOf, getZ, look]
  | (a, v) :: l, h, k => by
    obtain ⟨h1, h2⟩ := h.tail
    simp only [insL]
    split
    · rename_i hle
      split
      · rename_i e; subst e
        simp only [mask_cons]; split <;> simp
      · rename_i hne
        rw [mask_cons]
        split
        · rename_i e; subst e
          have : maskOf k ((a, v) :: l) = 0#16 := mask_low (fun q hq => by
            have h4 : k.toNat ≠ a.toNat := fun e => hne (BitVec.eq_of_toNat_eq e.symm)
            rcases List.mem_cons.1 hq with rfl | hq
            · simp only; omega
            · have := h2 q hq; simp only at this; omega)
          rw [this]; simp
        · rfl
    · rename_i hle
      rw [mask_cons, ins_mask h1 k]
      have hne : id ≠ a := fun e => by subst e; omega
      by_cases hka : k = a
      · subst hka; simp [mask_cons, fun e => hne (Eq.symm e)]
        intro e; exact absurd e.symm hne
      · simp only [mask_cons, hka, if_false, hne]

/-- tidy lists with the same parts are the same -/
theorem tidy_ext : ∀ {l m : LM}, TidyL l → TidyL m → (∀ k, maskOf k l = maskOf k m) → l = m
  | [], [], _, _, _ => rfl
  | [], (b, v) :: m, _, hm, h => by
    have := h b; rw [mask_cons, if_pos rfl] at this
    exact absurd this.symm (hm.2 (b, v) (by simp))
  | (a, u) :: l, [], hl, _, h => by
    have := h a; rw [mask_cons, if_pos rfl] at this
    exact absurd this (hl.2 (a, u) (by simp))
  | (a, u) :: l, (b, v) :: m, hl, hm, h => by
    obtain ⟨hl1, hl2⟩ := hl.tail
    obtain ⟨hm1, hm2⟩ := hm.tail
    have hu : u ≠ 0#16 := hl.2 (a, u) (by simp)
    have hv : v ≠ 0#16 := hm.2 (b, v) (by simp)
    have hab : a = b := by
      have ha := h a
      have hb := h b
      rw [mask_cons, if_pos rfl, mask_cons] at ha
      rw [mask_cons, mask_cons, if_pos rfl] at hb
      by_cases e : a = b
      · exact e
      · rw [if_neg e] at ha
        rw [if_neg (fun x => e x.symm)] at hb
        rcases Nat.lt_or_gt_of_ne (fun x => e (BitVec.eq_of_toNat_eq x) : a.toNat ≠ b.toNat) with hlt | hlt
        · rw [mask_low (fun q hq => by have := hm2 q hq; simp only at this; omega)] at ha; exact absurd ha hu
        · rw [mask_low (fun q hq => by have := hl2 q hq; simp only at this; omega)] at hb; exact absurd hb.symm hv
    subst hab
    have huv : u = v := by have := h a; simpa [mask_cons] using this
    subst huv
    rw [tidy_ext hl1 hm1 (fun k => ?_)]
    have := h k
    rw [mask_cons, mask_cons] at this
    by_cases hk : k = a
    · subst hk; rw [mask_low hl2, mask_low hm2]
    · rwa [if_neg hk, if_neg hk] at this

def addL (l : LM) (id : BitVec 32) (m : BitVec 16) : LM := if m = 0#16 then l else insL id m l
theorem addL_tidy {l : LM} (h : TidyL l) (id : BitVec 32) (m : BitVec 16) : TidyL (addL l id m) := by
  unfold addL; split
  · exact h
  · rename_i hm; exact ins_tidy hm h
theorem addL_mask {l : LM} (h : TidyL l) (id : BitVec 32) (m : BitVec 16) (k : BitVec 32) : maskOf k (addL l id m) = if k = id then maskOf id l ||| m else maskOf k l := by
  unfold addL; split
  · rename_i hm; subst hm; split <;> simp_all
  · exact ins_mask h k

/-! ### maskAdd -/
theorem oneL (p : BitVec 32 × BitVec 16) : ∀ u ∈ encL p, u.oneCell' = true := by
  intro u hu; simp [encL] at hu; rcases hu with rfl | rfl <;> rfl

def AddRel (w : World) (l : LM) (id : BitVec 32) (m : BitVec 16) (i : Nat) (done : Bool) (out : LM) : Prop :=
  (done = false ∧ out = l.take i ∧ ∀ p ∈ l.take i, p.1.toNat < id.toNat) ∨ (done = true ∧ out ++ l.drop i = insL id m l)

set_option maxRecDepth 100000 in
set_option maxHeartbeats 4000000 in
theorem maskAdd_c (w : World) (a : Option Addr) (c : Nat) (l : LM) (id : BitVec 32) (m : BitVec 16) (hc : l.length ≤ c) (hR : RdS w a 2 encL l) (ha : ∀ p : Addr, a = some p → p.block < w.heap.size) (hn : l.length ≤ 4294967296) :
    Calls Tryz.prog 13 #[.slice a l.length c, u32v id, u16v m] w fun e w' => ∃ v, e = .returned v ∧ SlR w' 2 encL v (addL l id m) ∧ Fr Non w w' := by
  by_cases hm : m = 0#16
  · have hm' : (m == 0#16) = true := by simpa using hm
    go_enter Tryz.func13, Tryz.ntmps13
    go_wp2
    go_ret
    exact ⟨_, rfl, by unfold addL; rw [if_pos hm]; exact ⟨a, c, rfl, hc, hR, ha⟩, Fr.refl _ _⟩
  · have hm' : (m == 0#16) = false := by simpa using hm
    have HA : RowKit.Hid (addL l id m = insL id m l) := Lib.hid (by unfold addL; rw [if_neg hm])
    clear hm
    go_enter Tryz.func13, Tryz.ntmps13
    go_wp2
    go_loopg [7, 8, 9] l.length (fun g o d i wr => ∃ (k oc : Nat) (oa : Option Addr) (done : Bool) (out : LM), k ≤ l.length ∧ g = l.length - k ∧ i = .int .i64 k ∧ d = .bool done ∧ o = .slice oa out.length oc ∧
      Own wr w.heap.size 46 2 encL (.slice oa out.length oc) out ∧ AddRel w l id m k done out ∧ Fr Non w wr ∧ out.length ≤ k + 1)
    case atStart => exact ⟨0, 0, none, false, [], Nat.zero_le _, rfl, rfl, rfl, rfl, Own.nil _ _ _ _ _, .inl ⟨rfl, rfl, by simp⟩, Fr.refl _ _, by simp⟩
    case round =>
      obtain ⟨k, oc, oa, done, out, hk, rfl, rfl, rfl, rfl, hO, hRel, hF, hol⟩ := hrel
      by_cases hlt : k < l.length
      · obtain ⟨blk, off, rfl, hcell⟩ := hR (fun e => by rw [e] at hlt; simp at hlt)
        have hw0 := hcell k hlt 0 (by omega)
        have hw1 := hcell k hlt 1 (by omega)
        simp only [encL, List.getElem?_cons_zero, List.getElem?_cons_succ, Nat.add_zero] at hw0 hw1
        have htake : l.take (k + 1) = l.take k ++ [l[k]] := List.take_succ_eq_append_getElem hlt
        have hdrop : l.drop k = l[k] :: l.drop (k + 1) := List.drop_eq_getElem_cons hlt
        have hsplit : l = l.take k ++ l[k] :: l.drop (k + 1) := by rw [← hdrop, List.take_append_drop]
        generalize l[k] = y at *
        obtain ⟨ya, yv⟩ := y
        simp only at hw0 hw1
        have hc0 := hF.cell hw0 (fun h => h)
        have hc1 := hF.cell hw1 (fun h => h)
        have HR := Lib.hid hR
        have HT := Lib.hid htake
        have HD := Lib.hid hdrop
        have HS := Lib.hid hsplit
        clear hcell hR htake hdrop hsplit
        rcases hRel with ⟨rfl, hout, hlow⟩ | ⟨rfl, hout⟩
        · have Hout := Lib.hid hout
          have HL : RowKit.Hid (out.length = k) := Lib.hid (by rw [Hout.out, List.length_take]; omega)
          clear hout
          by_cases hge : id.toNat ≤ ya.toNat
          · by_cases heq : ya = id
            · subst heq
              go_wp2_with (at_builtin; refine wl_appN rfl _ _ _ rfl elemLive hF hO rfl rfl (ya, yv ||| m) #[u32v ya, u16v (yv ||| m)] rfl rfl (fun _ => rfl) (oneL _) (by simp; omega) (by omega) ?_; intro a1 c1 w1 hO1 hF1)
              have hins : out ++ [(ya, yv ||| m)] ++ l.drop (k + 1) = insL ya m l := by
                have e := ins_skip ya m _ ((ya, yv) :: l.drop (k + 1)) hlow; rw [← HS.out] at e; rw [e, Hout.out]; simp [insL]
              go_roundg (l.length - (k + 1))
              case measure => omega
              case rel =>
                exact ⟨k + 1, c1, a1, true, out ++ [(ya, yv ||| m)], by omega, rfl, by go_num, rfl, by simp, by rw [List.length_append]; exact hO1, .inr ⟨rfl, hins⟩, hF1, by simp; omega⟩
            · have heq' : (ya == id) = false := by simpa using heq
              go_wp2_with (first | (at_builtin; refine wl_appN rfl _ _ _ rfl elemLive hF hO rfl rfl (id, m) #[u32v id, u16v m] rfl rfl (fun _ => rfl) (oneL _) (by simp; omega) (by omega) ?_; intro a1 c1 w1 hO1 hF1; have hd0 := hF1.cell hw0 (fun h => h); have hd1 := hF1.cell hw1 (fun h => h)) | (at_builtin; refine wl_appN rfl _ _ _ rfl elemLive hF1 hO1 (by simp) rfl (ya, yv) #[u32v ya, u16v yv] rfl rfl (fun _ => rfl) (oneL _) (by simp; omega) (by omega) ?_; intro a2 c2 w2 hO2 hF2))
              have hins : out ++ [(id, m)] ++ [(ya, yv)] ++ l.drop (k + 1) = insL id m l := by
                have e := ins_skip id m _ ((ya, yv) :: l.drop (k + 1)) hlow; rw [← HS.out] at e; rw [e, Hout.out]; simp [insL, hge, heq]
              go_roundg (l.length - (k + 1))
              case measure => omega
              case rel =>
                exact ⟨k + 1, c2, a2, true, out ++ [(id, m)] ++ [(ya, yv)], by omega, rfl, by go_num, rfl, by simp, by simpa using hO2, .inr ⟨rfl, hins⟩, hF2, by have := HL.out; simp; omega⟩
          · have hge' : decide (id.toNat ≤ ya.toNat) = false := by simpa using hge
            go_wp2_with (at_builtin; refine wl_appN rfl _ _ _ rfl elemLive hF hO rfl rfl (ya, yv) #[u32v ya, u16v yv] rfl rfl (fun _ => rfl) (oneL _) (by simp; omega) (by omega) ?_; intro a1 c1 w1 hO1 hF1)
            have hl2 : ∀ p ∈ l.take (k + 1), p.1.toNat < id.toNat := by
              rw [HT.out]; intro p hp
              rcases List.mem_append.1 hp with hp | hp
              · exact hlow p hp
              · simp at hp; subst hp; simp only; omega
            have hout2 : out ++ [(ya, yv)] = l.take (k + 1) := by rw [HT.out, Hout.out]
            go_roundg (l.length - (k + 1))
            case measure => omega
            case rel =>
              exact ⟨k + 1, c1, a1, false, out ++ [(ya, yv)], by omega, rfl, by go_num, rfl, by simp, by rw [List.length_append]; exact hO1, .inl ⟨rfl, hout2, hl2⟩, hF1, by simp; omega⟩
        · have Hout := Lib.hid hout
          clear hout
          go_wp2_with (at_builtin; refine wl_appN rfl _ _ _ rfl elemLive hF hO rfl rfl (ya, yv) #[u32v ya, u16v yv] rfl rfl (fun _ => rfl) (oneL _) (by simp; omega) (by omega) ?_; intro a1 c1 w1 hO1 hF1)
          have hins : out ++ [(ya, yv)] ++ l.drop (k + 1) = insL id m l := by
            rw [← Hout.out, HD.out]; simp
          go_roundg (l.length - (k + 1))
          case measure => omega
          case rel =>
            exact ⟨k + 1, c1, a1, true, out ++ [(ya, yv)], by omega, rfl, by go_num, rfl, by simp, by rw [List.length_append]; exact hO1, .inr ⟨rfl, hins⟩, hF1, by simp; omega⟩
      · have hkl : k = l.length := by omega
        have hO' : RowKit.Hid (Own wr w.heap.size 46 2 encL (.slice oa out.length oc) out) := Lib.hid hO
        rcases hRel with ⟨rfl, hout, hlow⟩ | ⟨rfl, hout⟩
        · have hins : out ++ [(id, m)] = insL id m l := by
            rw [hkl, List.take_length] at hout hlow
            have := ins_skip id m l [] hlow
            rw [List.append_nil] at this
            rw [this, hout]; rfl
          have Hins := Lib.hid hins
          clear hout hins
          go_wp2_with (at_builtin; refine wl_appN rfl _ _ _ rfl elemLive hF hO rfl rfl (id, m) #[u32v id, u16v m] rfl rfl (fun _ => rfl) (oneL _) (by simp; omega) (by omega) ?_; intro a1 c1 w1 hO1 hF1)
          go_ret
          refine ⟨_, rfl, ?_, hF1⟩
          rw [HA.out, ← Hins.out]
          have h := hO1.slr (fun _ => rfl)
          exact h
        · have hins : out = insL id m l := by rw [← hout, hkl]; simp
          have Hins := Lib.hid hins
          clear hout hins
          go_wp2
          go_ret
          refine ⟨_, rfl, ?_, hF⟩
          rw [HA.out, ← Hins.out]
          exact hO.slr (fun _ => rfl)

end Go.Proofs.YtglamkopjjimjaaGreat
