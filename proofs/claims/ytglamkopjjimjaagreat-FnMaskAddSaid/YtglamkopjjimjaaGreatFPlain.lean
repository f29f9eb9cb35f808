/- plainMasks: the entries of a map, by their numbers. -/
import Derived.Test.YtglamkopjjimjaaGreatFSort
set_option linter.unusedVariables false
set_option linter.unusedSimpArgs false
namespace Go.Proofs.YtglamkopjjimjaaGreat
open Go.RowKit Go.Shelf Go.Lib Go.Sort Go.Proofs

theorem elemLive : Elem Tryz.prog 22 46 2 8 where
  und := Tryz.underlying22
  info := by
    obtain ⟨i, h1, h2, h3, h4⟩ := info_parts (show (Tryz.prog.info? 46).map (fun i => (i.zero, i.size, i.bytes)) = some (some (.agg #[.int .u32 0, .int .u16 0]), 2, 8) by kernel_rfl)
    exact ⟨i, _, h1, h2, h3, h4, rfl⟩
  pos := by omega

/-- a slice whose cells lie in memory that is new since 'base' -/
def SlV {α : Type} (w : World) (base k : Nat) (enc : α → List Value) (v : Value) (xs : List α) : Prop :=
  ∃ a c, v = .slice a xs.length c ∧ xs.length ≤ c ∧ RdS w a k enc xs ∧ ∀ p : Addr, a = some p → base ≤ p.block ∧ p.block < w.heap.size

theorem holds_of_cells {w : World} {blk off : Nat} {xs : LM} (hc : ∀ i (h : i < xs.length) j, j < 2 → w.cell? ⟨blk, off + i * 2 + j, none⟩ = (encL xs[i])[j]?) (hz : ∀ o, w.frozen? ⟨blk, o, none⟩ = false) : HoldsK encL 2 w blk off xs.toArray := by
  intro j hj
  rw [size_flatK] at hj
  have hj' : j < xs.length * 2 := by simpa using hj
  refine ⟨?_, hz _⟩
  have h1 : j / 2 < xs.length := by omega
  have := hc (j / 2) h1 (j % 2) (by omega)
  have e : off + j / 2 * 2 + j % 2 = off + j := by omega
  rw [e] at this
  rw [this, get_flatK _ _ _ _ hj]
  have e2 : xs.toArray[j / 2]! = xs[j / 2] := by rw [getElem!_pos xs.toArray _ (by simpa using h1)]; simp
  rw [e2]
  have h2 : j % 2 < (encL xs[j / 2]).length := by show j % 2 < 2; omega
  rw [List.getElem?_eq_getElem h2, getElem!_pos (encL xs[j / 2]) _ h2]
  rfl

theorem rd_of_holds {w : World} {blk off : Nat} {d : Array (BitVec 32 × BitVec 16)} (h : HoldsK encL 2 w blk off d) : RdS w (some ⟨blk, off, none⟩) 2 encL d.toList := by
  intro _
  refine ⟨blk, off, rfl, fun i hi j hj => ?_⟩
  have hi' : i < d.size := by simpa using hi
  rw [(h.cell hi' hj).1]
  have e2 : d[i]! = d.toList[i] := by rw [getElem!_pos d _ hi']; simp
  rw [e2]
  have h2 : j < (encL d.toList[i]).length := hj
  rw [List.getElem?_eq_getElem h2, getElem!_pos (encL d.toList[i]) _ h2]

theorem permIn_list {d d' : Array (BitVec 32 × BitVec 16)} (h : PermIn 0 d.size d d') : d'.toList.Perm d.toList := by
  obtain ⟨h1, _, h3⟩ := h
  have e1 : d.extract 0 d.size = d := by simp
  have e2 : d'.extract 0 d.size = d' := by rw [← h1]; simp
  rw [e1, e2] at h3
  exact h3

theorem fr_putRowK {w : World} {blk off n : Nat} {d : Array (BitVec 32 × BitVec 16)} {os : Array Obj} : Fr (· = blk) w (grow (putRowK encL 2 (Sort.ahead w n) blk off d) os) := by
  have hs : (putRowK encL 2 (Sort.ahead w n) blk off d).heap.size = w.heap.size := by simp [putRowK, putRow, mapBlock, Sort.ahead]
  refine ⟨rfl, rfl, rfl, by rw [size_grow, hs]; omega, fun i hi hne => ?_⟩
  unfold grow
  rw [Array.getElem?_append_left (by rw [hs]; exact hi)]
  simp only [putRowK, putRow, mapBlock, Sort.ahead, Array.getElem?_modify]
  rw [if_neg (fun e => hne e.symm)]

theorem pigeon : ∀ (n : Nat) (l : List Nat), l.Nodup → (∀ x ∈ l, x < n) → l.length ≤ n := by
  intro n
  induction n with
  | zero => intro l _ h; cases l with | nil => simp | cons a l => exact absurd (h a (by simp)) (by omega)
  | succ n ih =>
    intro l hn h
    have h2 := ih (l.erase n) (hn.erase n) (fun x hx => by
      have h3 := (hn.mem_erase_iff).1 hx
      have := h x h3.2
      have := h3.1
      omega)
    rw [List.length_erase] at h2
    split at h2 <;> omega

theorem keys_len {l : LM} (hn : (keys l).Nodup) : l.length ≤ 4294967296 := by
  have h1 : ((keys l).map BitVec.toNat).Nodup := by
    rw [List.nodup_iff_pairwise_ne, List.pairwise_map]
    exact (List.nodup_iff_pairwise_ne.1 hn).imp (fun h e => h (BitVec.eq_of_toNat_eq e))
  have h2 := pigeon 4294967296 _ h1 (fun x hx => by
    obtain ⟨b, _, rfl⟩ := List.mem_map.1 hx
    exact b.isLt)
  simpa [keys] using h2

def PlainRel (w : World) (b : Nat) (l : LM) (wr : World) : Prop :=
  ∃ done rem a c, (done ++ rem).Perm l ∧ Rng wr b (w.heap.size + 1) u32v u16v l rem ∧ wr.heap[w.heap.size]? = some (.cells #[.slice a done.length c] 22 (0, 0)) ∧
    Own wr (w.heap.size + 2) 46 2 encL (.slice a done.length c) done ∧ Fr Non w wr

set_option maxHeartbeats 1600000 in
theorem plainMasks_c (w : World) (b : Nat) (l : LM) (hM : SetIs w b l) :
    Calls Tryz.prog 26 #[.map (some b)] w fun e w' => ∃ v xs, e = .returned v ∧ SlV w' w.heap.size 2 encL v xs ∧ xs.Perm l ∧ Fr Non w w' := by
  have hbl := hM.lt
  have hn := keys_len hM.nodup
  go_enter Tryz.func26, Tryz.ntmps26
  go_wp2_with (at_range; refine wl_range _ rfl _ _ _ _ rfl Tryz.underlying50 b l rfl (hM.of_block (Below.heap_alloc _ _ _ hbl)) ?_; intro w0 hr0 hf0 hz0)
  go_frame
  have hcell0 : w0.heap[w.heap.size]? = some (.cells #[.slice none 0 0] 22 (0, 0)) := (hf0.block _ (by simp) (fun h => h)).trans (heap_alloc_new w _)
  have e1 : (w.alloc (.cells #[.slice none 0 0] 22)).heap.size = w.heap.size + 1 := by simp
  rw [e1] at hr0 hz0 ⊢
  go_loopw [4, 5] (fun _ _ wr => PlainRel w b l wr) (fun _ _ wr => wr.rangeLeft b (w.heap.size + 1))
  case atStart => exact ⟨[], l, none, 0, .refl _, hr0, hcell0, Own.nil _ _ _ _ _, ((Fr.refl Non w).alloc _).andThen (hf0.mono (fun _ _ h => h))⟩
  case round =>
    obtain ⟨done, rem, a, c, hperm, hr, hcell, hO, hF⟩ := hrel
    go_wp2_with (at_next; refine wl_next _ rfl _ rfl b (w.heap.size + 1) l rem rfl hr ?_ ?_)
    · intro he
      subst he
      rw [List.append_nil] at hperm
      have hlen2 : done.length ≤ 4294967296 := by rw [hperm.length_eq]; exact hn
      clear hn
      have hc1 : wr.cell? ⟨w.heap.size, 0, none⟩ = some (.slice a done.length c) := by simp [World.cell?, hcell]
      obtain ⟨a', c', hv, hRd, hlc, hcm, hpb⟩ := hO.rd (fun _ => rfl)
      obtain ⟨rfl, rfl⟩ : a = a' ∧ c = c' := by cases hv; exact ⟨rfl, rfl⟩
      have hrl := hr.lt
      by_cases h2 : 2 ≤ done.length
      · obtain ⟨blk, off, rfl, hcells⟩ := hRd (fun e => by rw [e] at h2; simp at h2)
        have hz : ∀ o, wr.frozen? ⟨blk, o, none⟩ = false := by
          intro o
          rcases hO.2 with ⟨h, _⟩ | ⟨g, cap, cur, h, _, hg, _⟩
          · cases h
          · cases h; simp [World.frozen?, hg]
        have hH : HoldsK encL 2 wr blk off done.toArray := holds_of_cells hcells hz
        have hpb' := hpb _ rfl
        have hblk : w.heap.size + 2 ≤ blk ∧ blk < wr.heap.size := hpb'
        have HS := Lib.hid (sortMore_c blk off c w.heap.size done.toArray (by simpa using h2) (by simp; omega) wr (by omega) (by omega) hblk.2 (by simpa using hc1) hH)
        have HH := Lib.hid hH
        clear hv hcells hH hz
        go_wp2_with (go_at_call 31; go_must (refine HS.out.mono ?_; rintro e w1 ⟨rfl, d', n, os, hPI, _, rfl⟩; have hc2 : (grow (putRowK encL 2 (Sort.ahead wr n) blk off d') os).cell? ⟨w.heap.size, 0, none⟩ = some (.slice (some ⟨blk, off, none⟩) done.length c) := (fr_putRowK.cell hc1 (by show ¬ w.heap.size = blk; omega))))
        go_ret
        have hpl := permIn_list hPI
        have hsz : d'.toList.length = done.length := by rw [hpl.length_eq]
        have hH1 : HoldsK encL 2 (grow (putRowK encL 2 (Sort.ahead wr n) blk off d') os) blk off d' :=
          holdsK_grow _ _ _ _ blk off d' (by simp [putRowK, putRow, mapBlock, Sort.ahead]; omega) (holdsK_putRowK _ _ (Sort.ahead wr n) blk off done.toArray d' (holdsK_ahead _ _ _ _ _ _ _ HH.out) (by simpa using hsz))
        refine ⟨_, d'.toList, rfl, ⟨some ⟨blk, off, none⟩, c, by rw [hsz]; rfl, by rw [hsz]; exact hlc, rd_of_holds hH1, fun p hp => by cases hp; exact ⟨by show w.heap.size ≤ blk; omega, Nat.lt_of_lt_of_le hblk.2 (fr_putRowK.size)⟩⟩, hpl.trans hperm, ?_⟩
        exact hF.then fr_putRowK (fun i hi e => by omega)
      · clear hv
        go_wp2_with (go_at_call 31; go_must (refine (sortTiny_c a done.length c (Nat.le_of_lt_succ (Nat.lt_of_not_le h2)) (.func 32) #[] #[.pointer (some ⟨w.heap.size, 0, none⟩)] wr).mono ?_); rintro e w1 ⟨rfl, os, rfl⟩; have hc2 : (grow wr os).cell? ⟨w.heap.size, 0, none⟩ = some (.slice a done.length c) := (by rw [cell?_grow _ _ _ (show w.heap.size < wr.heap.size by omega)]; exact hc1))
        go_ret
        have hf4 : Fr Non wr (grow wr os) := ⟨rfl, rfl, rfl, by rw [size_grow]; omega, fun i hi _ => by unfold grow; simp [Array.getElem?_append, hi]⟩
        exact ⟨_, done, rfl, ⟨a, c, rfl, hlc, hRd.fr hf4 (fun _ => rfl) (by omega) (fun _ _ h => h), fun p hp => by have := hpb p hp; have := hf4.size; omega⟩, hperm, hF.andThen hf4⟩
    · intro k v rem' w1 hp hr1 hf1 hz1 hent
      have hent0 := hent w1 rfl rfl
      clear hent
      have hlen : done.length + (rem'.length + 1) = l.length := by
        have := hperm.length_eq; rw [List.length_append, hp.length_eq] at this; simpa using this
      have hcell1 : w1.heap[w.heap.size]? = some (.cells #[.slice a done.length c] 22 (0, 0)) := (hf1.block _ (by have := hr.lt; omega) (by omega)).trans hcell
      have hc1 : w1.cell? ⟨w.heap.size, 0, none⟩ = some (.slice a done.length c) := by simp [World.cell?, hcell1]
      have hlo := hO.lt
      rw [ownBlock_slice] at hlo
      have hO1 : Own (w1.alloc (.cells #[u32v k, u16v v] 46)) (w.heap.size + 2) 46 2 encL (.slice a done.length c) done := (hO.fr hf1 (fun i hi e => by rw [ownBlock_slice] at hi; have := hlo i hi; omega)).fr ((Fr.refl Non _).alloc _) (fun _ _ h => h)
      have hz2 : (w1.alloc (.cells #[u32v k, u16v v] 46)).heap.size = w1.heap.size + 1 := by simp
      have hrl := hr1.lt
      have hlt1 : w.heap.size < w1.heap.size := by omega
      have hne : ∀ i, a.map (·.block) = some i → i ≠ w.heap.size := fun i hi e => by have := hlo i hi; omega
      have hkeep : ∀ w2, Fr (fun i => a.map (·.block) = some i) (w1.alloc (.cells #[u32v k, u16v v] 46)) w2 → w2.heap[w.heap.size]? = some (.cells #[.slice a done.length c] 22 (0, 0)) := fun w2 hf =>
        (hf.block _ (by rw [hz2]; omega) (fun e => hne _ e rfl)).trans ((Below.heap_alloc _ _ _ hlt1).trans hcell1)
      have Hy : RowKit.Hid (∀ j u, (encL (k, v))[j]? = some u → (w1.alloc (.cells #[u32v k, u16v v] 46)).cell? ⟨w1.heap.size, j, none⟩ = some u) := Lib.hid (fun j u hj => by
        match j, hj with
        | 0, hj => simp [encL] at hj; subst hj; simp
        | 1, hj => simp [encL] at hj; subst hj; simp
        | j + 2, hj => simp [encL] at hj)
      have H1 : RowKit.Hid (∀ u ∈ encL (k, v), u.oneCell' = true) := Lib.hid (fun u hu => by simp [encL] at hu; rcases hu with rfl | rfl <;> rfl)
      have Hz1 := Lib.hid hz1
      clear hz1
      have Hkeep := Lib.hid hkeep
      have Hlo := Lib.hid hlo
      have Hne := Lib.hid hne
      clear hkeep hlo hne
      go_wp2_with (at_builtin; go_must (refine wl_app rfl _ _ _ rfl elemLive hO1 rfl w1.heap.size 1 (k, v) rfl (fun _ => rfl) Hy.out H1.out (by omega) (by omega) (by rw [hz2]; omega) ?_; intro a1 c1 w2 hO2 hf2 hl2; have hb2 := Hkeep.out w2 hf2; have hc2 : w2.cell? ⟨w.heap.size, 0, none⟩ = some (.slice a done.length c) := (by simp [World.cell?, hb2]); have hzz2 : w2.frozen? ⟨w.heap.size, 0, none⟩ = false := (by simp [World.frozen?, hb2])))
      have hf3 : Fr (· = w.heap.size) w2 (w2.setCell ⟨w.heap.size, 0, none⟩ (.slice a1 (done.length + 1) c1)) := (Fr.refl (· = w.heap.size) w2).setCell (.inr rfl) _
      have hr3 : Rng (w2.setCell ⟨w.heap.size, 0, none⟩ (.slice a1 (done.length + 1) c1)) b (w.heap.size + 1) u32v u16v l rem' := by
        refine ((hr1.fr ((Fr.refl Non _).alloc _) (fun h => h) (fun h => h)).fr hf2 (fun e => ?_) (fun e => ?_)).fr hf3 (by omega) (by omega)
        · have := Hlo _ e; omega
        · have := Hlo _ e; omega
      go_roundw
      case rel =>
        refine ⟨done ++ [(k, v)], rem', a1, c1, ?_, hr3, ?_, ?_, ?_⟩
        · rw [List.append_assoc]
          exact ((hp.symm.append_left done)).trans hperm
        · simp only [World.setCell, Array.getElem?_modify, if_true, hb2, List.length_append]
          rfl
        · rw [List.length_append]
          refine hO2.fr hf3 (fun i hi e => ?_)
          rw [ownBlock_slice] at hi
          subst e
          rcases hl2 with h | h
          · rw [h] at hi; exact Hne _ hi rfl
          · rw [h] at hi; simp at hi; omega
        · refine (((hF.then hf1 (fun i hi e => by omega)).alloc _).then hf2 (fun i hi e => ?_)).then hf3 (fun i hi e => by omega)
          have := Hlo _ e; omega
      case measure =>
        rw [hr3.left_eq, hr.left_eq, hp.length_eq]; simp

end Go.Proofs.YtglamkopjjimjaaGreat
