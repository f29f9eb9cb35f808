/- Maps as association lists: what the model's map operations do to them, and how a range over a map goes through a permutation of them. -/
import Derived.WalkKit
import Derived.WalkLawsBesides
import Derived.WalkSpells
import Derived.Maps.RangeWalk
import Derived.Maps.OwnSet
import Derived.MapKept
import Derived.Lib.Hide
import Derived.Deep.DeepMust
import Derived.Deep.DeepFit
import Derived.Deep.QuietTactic
import Derived.BigQuiet
import Derived.Maps.AppendAt
set_option linter.unusedSectionVars false
namespace Go.Proofs.YtglamkopjjimjaaGreat
open Go.RowKit Go.ChangeMaps

section assoc
variable {κ ν : Type} [DecidableEq κ]

def findE (k : κ) : List (κ × ν) → Nat → Option (Nat × ν)
  | [], _ => none
  | (a, v) :: l, i => if k = a then some (i, v) else findE k l (i + 1)

def look (k : κ) : List (κ × ν) → Option ν
  | [] => none
  | (a, v) :: l => if k = a then some v else look k l

def put (k : κ) (v : ν) : List (κ × ν) → List (κ × ν)
  | [] => [(k, v)]
  | (a, x) :: l => if k = a then (k, v) :: l else (a, x) :: put k v l

def del (k : κ) : List (κ × ν) → List (κ × ν)
  | [] => []
  | (a, x) :: l => if k = a then l else (a, x) :: del k l

def keys (l : List (κ × ν)) : List κ := l.map (·.1)

theorem findE_look (k : κ) (l : List (κ × ν)) (i : Nat) : (findE k l i).map (·.2) = look k l := by
  induction l generalizing i with
  | nil => rfl
  | cons p l ih => obtain ⟨a, v⟩ := p; simp only [findE, look]; split <;> simp_all

theorem findE_some {k : κ} {l : List (κ × ν)} {i j : Nat} {v : ν} (h : findE k l i = some (j, v)) : i ≤ j ∧ l[j - i]? = some (k, v) := by
  induction l generalizing i with
  | nil => simp [findE] at h
  | cons p l ih =>
    obtain ⟨a, x⟩ := p
    simp only [findE] at h
    split at h
    · rename_i hk; simp at h; obtain ⟨rfl, rfl⟩ := h; subst hk; simp
    · obtain ⟨h1, h2⟩ := ih h
      refine ⟨by omega, ?_⟩
      have : j - i = (j - (i + 1)) + 1 := by omega
      rw [this]; simpa using h2

theorem findE_none {k : κ} {l : List (κ × ν)} {i : Nat} (h : findE k l i = none) : look k l = none ∧ k ∉ keys l := by
  induction l generalizing i with
  | nil => simp [look, keys]
  | cons p l ih =>
    obtain ⟨a, x⟩ := p
    simp only [findE] at h
    split at h
    · simp at h
    · rename_i hk; obtain ⟨h1, h2⟩ := ih h
      refine ⟨by simp [look, hk, h1], ?_⟩
      simp only [keys, List.map_cons, List.mem_cons, not_or]; exact ⟨hk, h2⟩

theorem look_none {k : κ} {l : List (κ × ν)} : look k l = none ↔ k ∉ keys l := by
  induction l with
  | nil => simp [look, keys]
  | cons p l ih =>
    obtain ⟨a, x⟩ := p
    simp only [look, keys, List.map_cons, List.mem_cons, not_or]
    by_cases hk : k = a
    · simp [hk]
    · simp only [hk, if_false, not_false_eq_true, true_and]; exact ih

theorem look_mem {k : κ} {v : ν} {l : List (κ × ν)} (h : look k l = some v) : (k, v) ∈ l := by
  induction l with
  | nil => simp [look] at h
  | cons p l ih =>
    obtain ⟨a, x⟩ := p
    simp only [look] at h
    split at h
    · rename_i hk; simp at h; subst hk; subst h; simp
    · exact List.mem_cons_of_mem _ (ih h)

theorem mem_look {k : κ} {v : ν} {l : List (κ × ν)} (hn : (keys l).Nodup) (h : (k, v) ∈ l) : look k l = some v := by
  induction l with
  | nil => simp at h
  | cons p l ih =>
    obtain ⟨a, x⟩ := p
    simp only [keys, List.map_cons, List.nodup_cons] at hn
    simp only [look]
    rcases List.mem_cons.1 h with h | h
    · simp at h; obtain ⟨rfl, rfl⟩ := h; simp
    · by_cases hk : k = a
      · exact absurd (List.mem_map.2 ⟨(k, v), h, hk⟩) hn.1
      · simp only [hk, if_false]; exact ih hn.2 h

theorem look_put (k k' : κ) (v : ν) (l : List (κ × ν)) : look k' (put k v l) = if k' = k then some v else look k' l := by
  induction l with
  | nil => simp [put, look]
  | cons p l ih =>
    obtain ⟨a, x⟩ := p
    simp only [put]
    split
    · rename_i hk; subst hk
      simp only [look]; by_cases h : k' = k <;> simp [h]
    · rename_i hk
      simp only [look, ih]
      by_cases h : k' = a
      · simp only [h, if_true]; rw [if_neg (fun e => hk e.symm)]
      · simp [h]

theorem keys_put (k : κ) (v : ν) (l : List (κ × ν)) : keys (put k v l) = if k ∈ keys l then keys l else keys l ++ [k] := by
  induction l with
  | nil => simp [put, keys]
  | cons p l ih =>
    obtain ⟨a, x⟩ := p
    simp only [put]
    split
    · rename_i hk; subst hk; simp [keys]
    · rename_i hk
      have e : keys ((a, x) :: put k v l) = a :: keys (put k v l) := rfl
      have e2 : keys ((a, x) :: l) = a :: keys l := rfl
      rw [e, e2, ih]
      by_cases h : k ∈ keys l
      · simp [h]
      · simp [h, hk]

theorem nodup_put {k : κ} {v : ν} {l : List (κ × ν)} (h : (keys l).Nodup) : (keys (put k v l)).Nodup := by
  rw [keys_put]
  split
  · exact h
  · rename_i hk; exact List.nodup_append.2 ⟨h, by simp, by intro a ha b hb; simp at hb; subst hb; exact fun e => hk (e ▸ ha)⟩

theorem del_sublist (k : κ) (l : List (κ × ν)) : (del k l).Sublist l := by
  induction l with
  | nil => simp [del]
  | cons p l ih =>
    obtain ⟨a, x⟩ := p
    simp only [del]
    split
    · exact List.sublist_cons_self _ _
    · exact ih.cons_cons _

theorem nodup_del {k : κ} {l : List (κ × ν)} (h : (keys l).Nodup) : (keys (del k l)).Nodup := h.sublist ((del_sublist k l).map _)

theorem look_del {k k' : κ} {l : List (κ × ν)} (h : (keys l).Nodup) : look k' (del k l) = if k' = k then none else look k' l := by
  induction l with
  | nil => simp [del, look]
  | cons p l ih =>
    obtain ⟨a, x⟩ := p
    simp only [keys, List.map_cons, List.nodup_cons] at h
    simp only [del]
    split
    · rename_i hk; subst hk
      by_cases h' : k' = k
      · subst h'; simp; exact look_none.2 h.1
      · simp [look, h']
    · rename_i hk
      simp only [look, ih h.2]
      by_cases h' : k' = a
      · simp only [h', if_true]; rw [if_neg (fun e => hk e.symm)]
      · simp [h']

theorem mem_put {k : κ} {v : ν} {l : List (κ × ν)} {p : κ × ν} (h : p ∈ put k v l) : p = (k, v) ∨ p ∈ l := by
  induction l with
  | nil => simpa [put] using h
  | cons q l ih =>
    obtain ⟨a, x⟩ := q
    simp only [put] at h
    split at h
    · rcases List.mem_cons.1 h with h | h
      · exact .inl h
      · exact .inr (List.mem_cons_of_mem _ h)
    · rcases List.mem_cons.1 h with h | h
      · exact .inr (by simp [h])
      · rcases ih h with h | h
        · exact .inl h
        · exact .inr (List.mem_cons_of_mem _ h)

theorem put_length_le (k : κ) (v : ν) (l : List (κ × ν)) : (put k v l).length ≤ l.length + 1 := by
  induction l with
  | nil => simp [put]
  | cons q l ih => obtain ⟨a, x⟩ := q; simp only [put]; split <;> simp <;> omega

/-- Two lists without two entries of one key that look alike are permutations of each other. -/
theorem perm_of_look {l m : List (κ × ν)} (hl : (keys l).Nodup) (hm : (keys m).Nodup) (h : ∀ k, look k l = look k m) : l.Perm m := by
  have nd : ∀ {l : List (κ × ν)}, (keys l).Nodup → l.Nodup := fun {l} h => by
    unfold keys at h
    exact (List.pairwise_map.1 h).imp fun hne e => hne (by rw [e])
  refine (List.perm_ext_iff_of_nodup (nd hl) (nd hm)).2 fun p => ⟨fun hp => ?_, fun hp => ?_⟩
  · have := mem_look hl hp; rw [h] at this; exact look_mem this
  · have := mem_look hm hp; rw [← h] at this; exact look_mem this

end assoc

/-! ### The model's maps -/
structure KeyOk (P : Program) (K : TypeId) {κ : Type} [DecidableEq κ] (ek : κ → Value) : Prop where
  find : ∀ (k : κ) (es : List MapEntry) (ks : List κ) (w : World), es.map (·.key) = ks.map ek →
    (Instr.findKey K (ek k) es).run P w = .ok ((findE k (ks.zip (es.map (·.val))) 0)) w
  check : ∀ emp k w, (Instr.checkKey emp 10000 K (ek k)).run P w = .ok () w
  same : ∀ k w, (Instr.keyThatStays (ek k) (ek k)).run P w = .ok (ek k) w

section
variable {κ ν : Type} [DecidableEq κ] {ek : κ → Value} {ev : ν → Value} {P : Program} {K : TypeId}

def MapIs (w : World) (b : Nat) (ek : κ → Value) (ev : ν → Value) (l : List (κ × ν)) : Prop :=
  ∃ es clock, w.heap[b]? = some (.map es clock) ∧ es.toList.map (fun e => (e.key, e.val)) = l.map (fun p => (ek p.1, ev p.2)) ∧
    (es.toList.map (·.born)).Nodup ∧ (∀ e ∈ es.toList, e.born < clock) ∧ (keys l).Nodup

theorem int_find (q : IntKind) (k : Int) : ∀ (es : List MapEntry) (ks : List Int) (i : Nat), es.map (·.key) = ks.map (.int q) →
    Instr.findNow (.int q) (.int q k) es i = some (findE k (ks.zip (es.map (·.val))) i) := by
  intro es
  induction es with
  | nil => intro ks i h; cases ks <;> simp_all [Instr.findNow, findE]
  | cons e es ih =>
    intro ks i h
    cases ks with
    | nil => simp at h
    | cons a ks =>
      simp only [List.map_cons, List.cons.injEq] at h
      simp only [Instr.findNow, h.1, Instr.sameNow, if_true, List.map_cons, List.zip_cons_cons, findE, ih ks (i + 1) h.2]
      by_cases hk : k = a
      · simp [hk]
      · have : (k == a) = false := by simpa using hk
        simp [hk, this]

theorem int_keyok (q : IntKind) (hK : P.underlying K = some (.int q)) : KeyOk P K (fun n : Int => Value.int q n) where
  find := fun k es ks w h => by
    unfold Instr.findKey
    simp only [Sem.run_bind, run_underlying hK, Result.andThen, int_find q k es ks 0 h]
    rfl
  check := fun emp k w => by
    show (Instr.checkKey emp (9999 + 1) K _).run P w = _
    unfold Instr.checkKey
    simp only [Sem.run_bind, run_underlying hK, Result.andThen]
    rfl
  same := fun k w => by
    unfold Instr.keyThatStays
    have : Instr.sameBits 10000 (Value.int q k) (Value.int q k) = true := by
      show Instr.sameBits (9999 + 1) _ _ = true
      simp [Instr.sameBits]
    simp [this]

theorem str_find (k : ByteArray) : ∀ (es : List MapEntry) (ks : List ByteArray) (i : Nat), es.map (·.key) = ks.map .string →
    Instr.findNow .string (.string k) es i = some (findE k (ks.zip (es.map (·.val))) i) := by
  intro es
  induction es with
  | nil => intro ks i h; cases ks <;> simp_all [Instr.findNow, findE]
  | cons e es ih =>
    intro ks i h
    cases ks with
    | nil => simp at h
    | cons a ks =>
      simp only [List.map_cons, List.cons.injEq] at h
      simp only [Instr.findNow, h.1, Instr.sameNow, List.map_cons, List.zip_cons_cons, findE, ih ks (i + 1) h.2]
      by_cases hk : k = a
      · have : (k == a) = true := (MapKept.bytes_beq k a).2 hk
        rw [this]; simp [hk]
      · have : (k == a) = false := by
          cases hb : (k == a)
          · rfl
          · exact absurd ((MapKept.bytes_beq k a).1 hb) hk
        simp [hk, this]

theorem str_keyok (hK : P.underlying K = some .string) : KeyOk P K Value.string where
  find := fun k es ks w h => by
    unfold Instr.findKey
    simp only [Sem.run_bind, run_underlying hK, Result.andThen, str_find k es ks 0 h]
    rfl
  check := fun emp k w => by
    show (Instr.checkKey emp (9999 + 1) K _).run P w = _
    unfold Instr.checkKey
    simp only [Sem.run_bind, run_underlying hK, Result.andThen]
    rfl
  same := fun k w => by
    unfold Instr.keyThatStays
    have : Instr.sameBits 10000 (Value.string k) (Value.string k) = true := by
      show Instr.sameBits (9999 + 1) _ _ = true
      simp [Instr.sameBits, (MapKept.bytes_beq k k).2 rfl]
    simp [this]

/-! ### What is told of a map in memory -/

theorem MapIs.of_block {w w' : World} {b : Nat} {l : List (κ × ν)} (h : MapIs w b ek ev l) (hb : w'.heap[b]? = w.heap[b]?) : MapIs w' b ek ev l := by
  obtain ⟨es, c, h1, h2⟩ := h; exact ⟨es, c, hb.trans h1, h2⟩
theorem MapIs.lt {w : World} {b : Nat} {l : List (κ × ν)} (h : MapIs w b ek ev l) : b < w.heap.size := by
  obtain ⟨es, c, h1, h2⟩ := h; exact (Array.getElem?_eq_some_iff.1 h1).1
theorem MapIs.nodup {w : World} {b : Nat} {l : List (κ × ν)} (h : MapIs w b ek ev l) : (keys l).Nodup := by
  obtain ⟨es, c, h1, h2, h3, h4, h5⟩ := h; exact h5
theorem MapIs.made (w : World) : MapIs (w.alloc (.map #[] 0)) w.heap.size ek ev [] :=
  ⟨#[], 0, heap_alloc_new w _, by simp, by simp, by simp, by simp [keys]⟩

theorem zip_of {es : List MapEntry} {l : List (κ × ν)} (h : es.map (fun e => (e.key, e.val)) = l.map (fun p => (ek p.1, ev p.2))) :
    es.map (·.key) = (keys l).map ek ∧ es.map (·.val) = l.map (fun p => ev p.2) := by
  constructor
  · have := congrArg (List.map Prod.fst) h; simpa [keys, List.map_map, Function.comp_def] using this
  · have := congrArg (List.map Prod.snd) h; simpa [List.map_map, Function.comp_def] using this

theorem findE_zip (k : κ) : ∀ (l : List (κ × ν)) (i : Nat), findE k ((keys l).zip (l.map (fun p => ev p.2))) i = (findE k l i).map (fun p => (p.1, ev p.2)) := by
  intro l
  induction l with
  | nil => intro i; rfl
  | cons p l ih =>
    intro i
    obtain ⟨a, x⟩ := p
    simp only [keys, List.map_cons, List.zip_cons_cons, findE]
    split
    · rfl
    · exact ih (i + 1)

theorem findKey_of {l : List (κ × ν)} (KO : KeyOk P K ek) {es : Array MapEntry}
    (h2 : es.toList.map (fun e => (e.key, e.val)) = l.map (fun p => (ek p.1, ev p.2))) (key : κ) (w : World) :
    (Instr.findKey K (ek key) es.toList).run P w = .ok ((findE key l 0).map (fun p => (p.1, ev p.2))) w := by
  obtain ⟨a, c⟩ := zip_of h2
  rw [KO.find key es.toList (keys l) w a, c, findE_zip]


/-! ### What a step may turn -/
structure Fr (S : Nat → Prop) (w w' : World) : Prop where
  os : w'.os = w.os
  tape : w'.tape = w.tape
  output : w'.output = w.output
  size : w.heap.size ≤ w'.heap.size
  block : ∀ k, k < w.heap.size → ¬ S k → w'.heap[k]? = w.heap[k]?

end

def Non : Nat → Prop := fun _ => False

theorem Fr.refl (S : Nat → Prop) (w : World) : Fr S w w := ⟨rfl, rfl, rfl, Nat.le_refl _, fun _ _ _ => rfl⟩
theorem Fr.trans {S T U : Nat → Prop} {a b c : World} (h : Fr S a b) (k : Fr T b c) (hS : ∀ i, i < a.heap.size → S i → U i) (hT : ∀ i, i < a.heap.size → T i → U i) : Fr U a c :=
  ⟨k.os.trans h.os, k.tape.trans h.tape, k.output.trans h.output, Nat.le_trans h.size k.size, fun i hi hu =>
    (k.block i (Nat.lt_of_lt_of_le hi h.size) fun ht => hu (hT i hi ht)).trans (h.block i hi fun hs => hu (hS i hi hs))⟩
theorem Fr.mono {S T : Nat → Prop} {a b : World} (h : Fr S a b) (hS : ∀ i, i < a.heap.size → S i → T i) : Fr T a b :=
  ⟨h.os, h.tape, h.output, h.size, fun i hi hu => h.block i hi fun hs => hu (hS i hi hs)⟩
theorem Fr.andThen {S : Nat → Prop} {a b c : World} (h : Fr S a b) (k : Fr S b c) : Fr S a c := h.trans k (fun _ _ h => h) (fun _ _ h => h)
theorem Fr.then {S T : Nat → Prop} {a b c : World} (h : Fr S a b) (k : Fr T b c) (hT : ∀ i, i < a.heap.size → T i → S i) : Fr S a c := h.trans k (fun _ _ h => h) hT
theorem Fr.of_below {S : Nat → Prop} {w w' : World} (h : Below w.heap.size w w') : Fr S w w' := ⟨h.os, h.tape, h.output, h.size, fun k hk _ => h.block k hk⟩
theorem Fr.below {w w' : World} (h : Fr Non w w') : Below w.heap.size w w' := ⟨h.os, h.tape, h.output, h.size, fun k hk => h.block k hk fun f => f⟩
theorem Fr.of_below' {S : Nat → Prop} {B : Nat} {w w' : World} (h : Below B w w') (hS : ∀ i, B ≤ i → S i) : Fr S w w' :=
  ⟨h.os, h.tape, h.output, h.size, fun k _ hn => by
    by_cases hk : k < B
    · exact h.block k hk
    · exact absurd (hS k (by omega)) hn⟩
theorem Fr.of_grown {w w' : World} {row : Option Nat} (h : w.grownBy w' row) : Fr (fun i => some i = row) w w' := ⟨h.os, h.tape, h.output, h.size, fun k hk hn => h.block k hk hn⟩
theorem Fr.alloc {S : Nat → Prop} {a b : World} (h : Fr S a b) (o : Obj) : Fr S a (b.alloc o) :=
  h.then (T := S) (Fr.of_below ((Below.refl _ _).alloc (Nat.le_refl _) o)) (fun _ _ h => h)
theorem Fr.drew {S : Nat → Prop} {a b : World} (h : Fr S a b) : Fr S a b.drew := ⟨h.os, h.tape, h.output, h.size, h.block⟩
theorem Fr.drewN {S : Nat → Prop} {a b : World} (h : Fr S a b) (n : Nat) : Fr S a (b.drewN n) := ⟨h.os, h.tape, h.output, h.size, h.block⟩
theorem Fr.setCell {S : Nat → Prop} {a b : World} (h : Fr S a b) {p : Addr} (hp : a.heap.size ≤ p.block ∨ S p.block) (u : Value) : Fr S a (b.setCell p u) :=
  ⟨h.os, h.tape, h.output, by simpa [World.setCell] using h.size, fun k hk hn => by
    rw [Below.heap_setCell _ _ _ _ (fun e => by rcases hp with hp | hp; · omega
                                                · exact hn (e ▸ hp))]
    exact h.block k hk hn⟩
theorem Fr.setBlock {S : Nat → Prop} {a b : World} (h : Fr S a b) {r : Nat} (hr : a.heap.size ≤ r ∨ S r) (o : Obj) : Fr S a (setBlock b r o) :=
  ⟨h.os, h.tape, h.output, by simpa [ChangeMaps.setBlock] using h.size, fun k hk hn => by
    have : k ≠ r := fun e => by rcases hr with hr | hr; · omega
                                · exact hn (e ▸ hr)
    simp only [ChangeMaps.setBlock, Array.getElem?_setIfInBounds]
    rw [if_neg (fun e => this e.symm)]
    exact h.block k hk hn⟩

section
variable {κ ν : Type} [DecidableEq κ] {ek : κ → Value} {ev : ν → Value} {P : Program} {K : TypeId}

theorem MapIs.fr {S : Nat → Prop} {w w' : World} {b : Nat} {l : List (κ × ν)} (h : MapIs w b ek ev l) (hf : Fr S w w') (hb : ¬ S b) : MapIs w' b ek ev l := h.of_block (hf.block b h.lt hb)

theorem setBlock_at {w : World} {b : Nat} (hb : b < w.heap.size) (o : Obj) : (ChangeMaps.setBlock w b o).heap[b]? = some o := by
  simp [ChangeMaps.setBlock, hb]
theorem setBlock_ne {w : World} {b k : Nat} (h : k ≠ b) (o : Obj) : (ChangeMaps.setBlock w b o).heap[k]? = w.heap[k]? := by
  simp only [ChangeMaps.setBlock, Array.getElem?_setIfInBounds]; rw [if_neg (fun e => h e.symm)]
theorem setBlock_size (w : World) (b : Nat) (o : Obj) : (ChangeMaps.setBlock w b o).heap.size = w.heap.size := by simp [ChangeMaps.setBlock]

theorem run_setObj_map {w : World} {b : Nat} {es : Array MapEntry} {c : Nat} (hb : w.heap[b]? = some (.map es c)) (o : Obj) : (setObj b o).run P w = .ok () (ChangeMaps.setBlock w b o) := by
  simp [setObj, Sem.run, hb, ChangeMaps.setBlock]

/-- 'm[k]', 'v, ok := m[k]'. -/
theorem MapIs.lookup {w : World} {b : Nat} {l : List (κ × ν)} (h : MapIs w b ek ev l) (KO : KeyOk P K ek) {t e : TypeId} (ht : P.underlying t = some (.map K e)) {z : Value}
    (hz : ∀ w : World, (zeroValue e).run P w = .ok z w) (key : κ) (c : Bool) :
    (Instr.lookup t (.map (some b)) (ek key) c).run P w =
      .ok (if c then .tuple #[((look key l).map ev).getD z, .bool (look key l).isSome] else ((look key l).map ev).getD z) w := by
  obtain ⟨es, clock, hb, h2, h3, h4, h5⟩ := h
  have hf := findKey_of KO h2 key w
  have hl := findE_look key l 0
  unfold Instr.lookup
  simp only [Sem.run_bind, run_underlying ht, Result.andThen, MapKept.run_getObj_map hb, pure, Sem.run, KO.check, hf]
  cases hfe : findE key l 0 with
  | none =>
    rw [hfe] at hl; simp at hl
    simp only [Option.map_none, ← hl, Sem.run_bind, hz, Result.andThen, Sem.run]
    cases c <;> rfl
  | some p =>
    rw [hfe] at hl; simp at hl
    simp only [Option.map_some, ← hl, Sem.run_bind, Result.andThen, Sem.run]
    cases c <;> rfl

theorem modify_entries {es : Array MapEntry} {l : List (κ × ν)} (h : es.toList.map (fun e => (e.key, e.val)) = l.map (fun p => (ek p.1, ev p.2))) {key : κ} {i : Nat} {x : ν} (hi : findE key l 0 = some (i, x)) (v : ν) :
    (es.modify i fun e => { e with key := ek key, val := ev v }).toList.map (fun e => (e.key, e.val)) = (put key v l).map (fun p => (ek p.1, ev p.2)) := by
  have gen : ∀ (l : List (κ × ν)) (L : List MapEntry) (j i : Nat), L.map (fun e => (e.key, e.val)) = l.map (fun p => (ek p.1, ev p.2)) → findE key l j = some (i, x) →
      (L.modify (i - j) fun e => { e with key := ek key, val := ev v }).map (fun e => (e.key, e.val)) = (put key v l).map (fun p => (ek p.1, ev p.2)) := by
    intro l
    induction l with
    | nil => intro L j i _ h; simp [findE] at h
    | cons p l ih =>
      intro L j i hL hf
      obtain ⟨a, y⟩ := p
      cases L with
      | nil => simp at hL
      | cons e L =>
        simp only [List.map_cons, List.cons.injEq] at hL
        simp only [findE] at hf
        by_cases hk : key = a
        · simp only [hk, if_true, Option.some.injEq, Prod.mk.injEq] at hf
          obtain ⟨rfl, _⟩ := hf
          subst hk
          simp [put, hL.2]
        · simp only [hk, if_false] at hf
          have hle := (findE_some hf).1
          have e1 : i - j = (i - (j + 1)) + 1 := by omega
          have := ih L (j + 1) i hL.2 hf
          rw [e1]
          simp only [List.modify_succ_cons, List.map_cons, put, hk, if_false, this, hL.1]
  have := gen l es.toList 0 i h hi
  simpa using this

theorem put_new {key : κ} {v : ν} {l : List (κ × ν)} (h : findE key l 0 = none) : put key v l = l ++ [(key, v)] := by
  have gen : ∀ (l : List (κ × ν)) (j : Nat), findE key l j = none → put key v l = l ++ [(key, v)] := by
    intro l
    induction l with
    | nil => intro j _; rfl
    | cons p l ih =>
      intro j hf
      obtain ⟨a, y⟩ := p
      simp only [findE] at hf
      by_cases hk : key = a
      · simp [hk] at hf
      · simp only [hk, if_false] at hf
        simp only [put, hk, if_false, ih _ hf, List.cons_append]
  exact gen l 0 h

/-- 'm[k] = v'. -/
theorem MapIs.update {w : World} {b : Nat} {l : List (κ × ν)} (h : MapIs w b ek ev l) (KO : KeyOk P K ek) {t e : TypeId} (ht : P.underlying t = some (.map K e)) (key : κ) (v : ν) :
    ∃ w', (Instr.mapUpdate t (.map (some b)) (ek key) (ev v)).run P w = .ok () w' ∧ MapIs w' b ek ev (put key v l) ∧ Fr (· = b) w w' ∧ w'.heap.size = w.heap.size := by
  have hlt := h.lt
  obtain ⟨es, clock, hb, h2, h3, h4, h5⟩ := h
  have hf := findKey_of KO h2 key w
  unfold Instr.mapUpdate
  simp only [Sem.run_bind, run_underlying ht, Result.andThen, MapKept.run_getObj_map hb, KO.check, hf]
  cases hfe : findE key l 0 with
  | none =>
    simp only [Option.map_none]
    refine ⟨_, run_setObj_map hb _, ⟨_, _, setBlock_at hlt _, ?_, ?_, ?_, nodup_put h5⟩, (Fr.refl (· = b) _).setBlock (.inr rfl) _, setBlock_size _ _ _⟩
    · rw [put_new hfe]; simp [h2]
    · simp only [Array.toList_push, List.map_append, List.map_cons, List.map_nil]
      refine List.nodup_append.2 ⟨h3, by simp, ?_⟩
      intro a ha c hc
      simp at hc; subst hc
      obtain ⟨e, he, rfl⟩ := List.mem_map.1 ha
      exact Nat.ne_of_lt (h4 e he)
    · intro e he
      simp only [Array.toList_push, List.mem_append, List.mem_singleton] at he
      rcases he with he | rfl
      · exact Nat.lt_succ_of_lt (h4 e he)
      · exact Nat.lt_succ_self _
  | some p =>
    obtain ⟨i, x⟩ := p
    obtain ⟨_, hi⟩ := findE_some hfe
    simp at hi
    have hkey : ((es[i]?).map (·.key)).getD (ek key) = ek key := by
      have := congrArg (fun L => L[i]?) h2
      simp only [List.getElem?_map, hi, Option.map_some, Array.getElem?_toList] at this
      cases he : es[i]? with
      | none => rfl
      | some e => rw [he] at this; simp at this; simp [this.1]
    simp only [Option.map_some, hkey, Sem.run_bind, KO.same, Result.andThen]
    have hborn : (es.modify i fun e => { e with key := ek key, val := ev v }).toList.map (·.born) = es.toList.map (·.born) := by
      rw [Array.toList_modify]
      apply List.ext_getElem?
      intro j
      simp only [List.getElem?_map, List.getElem?_modify]
      cases es.toList[j]? <;> simp
      split <;> rfl
    refine ⟨_, run_setObj_map hb _, ⟨_, _, setBlock_at hlt _, modify_entries h2 hfe v, ?_, ?_, nodup_put h5⟩, (Fr.refl (· = b) _).setBlock (.inr rfl) _, setBlock_size _ _ _⟩
    · rw [hborn]; exact h3
    · intro e he
      have : e.born ∈ es.toList.map (·.born) := by rw [← hborn]; exact List.mem_map.2 ⟨e, he, rfl⟩
      obtain ⟨e', he', heq⟩ := List.mem_map.1 this
      rw [← heq]; exact h4 e' he'


theorem erase_entries {es : Array MapEntry} {l : List (κ × ν)} (h : es.toList.map (fun e => (e.key, e.val)) = l.map (fun p => (ek p.1, ev p.2))) {key : κ} {i : Nat} {x : ν} (hi : findE key l 0 = some (i, x)) :
    (es.eraseIdxIfInBounds i).toList.map (fun e => (e.key, e.val)) = (del key l).map (fun p => (ek p.1, ev p.2)) := by
  have gen : ∀ (l : List (κ × ν)) (j i : Nat), findE key l j = some (i, x) → del key l = l.eraseIdx (i - j) := by
    intro l
    induction l with
    | nil => intro j i h; simp [findE] at h
    | cons p l ih =>
      intro j i hf
      obtain ⟨a, y⟩ := p
      simp only [findE] at hf
      by_cases hk : key = a
      · simp only [hk, if_true, Option.some.injEq, Prod.mk.injEq] at hf
        obtain ⟨rfl, _⟩ := hf
        simp [del, hk]
      · simp only [hk, if_false] at hf
        have hle := (findE_some hf).1
        have e1 : i - j = (i - (j + 1)) + 1 := by omega
        rw [e1]
        simp only [del, hk, if_false, List.eraseIdx_cons_succ, ih _ _ hf]
  have e1 : (es.eraseIdxIfInBounds i).toList = es.toList.eraseIdx i := by
    unfold Array.eraseIdxIfInBounds
    split
    · simp
    · rename_i hn; rw [List.eraseIdx_of_length_le (by simpa using hn)]
  have e2 : ∀ {α β : Type} (f : α → β) (L : List α) (i : Nat), (L.eraseIdx i).map f = (L.map f).eraseIdx i := by
    intro α β f L
    induction L with
    | nil => intro i; simp
    | cons a L ih => intro i; cases i <;> simp [ih]
  rw [e1, gen l 0 i hi, Nat.sub_zero, e2, e2, h]

theorem del_none {key : κ} {l : List (κ × ν)} (h : findE key l 0 = none) : del key l = l := by
  have gen : ∀ (l : List (κ × ν)) (j : Nat), findE key l j = none → del key l = l := by
    intro l
    induction l with
    | nil => intro j _; rfl
    | cons p l ih =>
      intro j hf
      obtain ⟨a, y⟩ := p
      simp only [findE] at hf
      by_cases hk : key = a
      · simp [hk] at hf
      · simp only [hk, if_false] at hf
        simp only [del, hk, if_false, ih _ hf]
  exact gen l 0 h

/-- 'delete(m, k)'. -/
theorem MapIs.delete {w : World} {b : Nat} {l : List (κ × ν)} (h : MapIs w b ek ev l) (KO : KeyOk P K ek) {t e ty : TypeId} {kt : TypeId} (ht : P.underlying t = some (.map K e)) (key : κ) :
    ∃ w', (Builtin.delete_ #[t, kt] ty #[.map (some b), ek key]).run P w = .ok (.tuple #[]) w' ∧ MapIs w' b ek ev (del key l) ∧ Fr (· = b) w w' ∧ w'.heap.size = w.heap.size := by
  have hlt := h.lt
  obtain ⟨es, clock, hb, h2, h3, h4, h5⟩ := h
  have hf := findKey_of KO h2 key w
  unfold Builtin.delete_
  simp only [List.getElem?_toArray, List.getElem?_cons_zero, List.getElem?_cons_succ, Sem.run_bind, run_underlying ht, Result.andThen, MapKept.run_getObj_map hb, KO.check, hf]
  cases hfe : findE key l 0 with
  | none =>
    simp only [Option.map_none, Sem.run_bind, run_setObj_map hb, Result.andThen]
    refine ⟨_, rfl, ⟨_, _, setBlock_at hlt _, ?_, h3, h4, nodup_del h5⟩, (Fr.refl (· = b) _).setBlock (.inr rfl) _, setBlock_size _ _ _⟩
    rw [del_none hfe]; exact h2
  | some p =>
    obtain ⟨i, x⟩ := p
    simp only [Option.map_some, Sem.run_bind, run_setObj_map hb, Result.andThen]
    have hs : (es.eraseIdxIfInBounds i).toList.Sublist es.toList := by
      unfold Array.eraseIdxIfInBounds
      split
      · simp only [Array.toList_eraseIdx]; exact List.eraseIdx_sublist _ _
      · exact List.Sublist.refl _
    exact ⟨_, rfl, ⟨_, _, setBlock_at hlt _, erase_entries h2 hfe, (hs.map _).nodup h3, fun e he => h4 e (hs.subset he), nodup_del h5⟩, (Fr.refl (· = b) _).setBlock (.inr rfl) _, setBlock_size _ _ _⟩

/-! ### A range over a map: it goes through some permutation of its entries -/

/-- Block r is an iterator over the map in block b, which holds l; 'rem' are the entries that are still to come. -/
def Rng (w : World) (b r : Nat) (ek : κ → Value) (ev : ν → Value) (l rem : List (κ × ν)) : Prop :=
  ∃ es clock seen, w.heap[b]? = some (.map es clock) ∧ w.heap[r]? = some (.mapIter (some b) clock seen clock) ∧
    es.toList.map (fun e => (e.key, e.val)) = l.map (fun p => (ek p.1, ev p.2)) ∧ (es.toList.map (·.born)).Nodup ∧ (∀ e ∈ es.toList, e.born < clock) ∧ (keys l).Nodup ∧
    rem = (l.zip (es.toList.map (·.born))).filterMap (fun x => if seen.contains x.2 then none else some x.1)

theorem Rng.map {w : World} {b r : Nat} {l rem : List (κ × ν)} (h : Rng w b r ek ev l rem) : MapIs w b ek ev l := by
  obtain ⟨es, c, s, h1, h2, h3, h4, h5, h6, h7⟩ := h; exact ⟨es, c, h1, h3, h4, h5, h6⟩
theorem Rng.lt {w : World} {b r : Nat} {l rem : List (κ × ν)} (h : Rng w b r ek ev l rem) : b < w.heap.size ∧ r < w.heap.size := by
  obtain ⟨es, c, s, h1, h2, _⟩ := h; exact ⟨(Array.getElem?_eq_some_iff.1 h1).1, (Array.getElem?_eq_some_iff.1 h2).1⟩
theorem Rng.of_block {w w' : World} {b r : Nat} {l rem : List (κ × ν)} (h : Rng w b r ek ev l rem) (hb : w'.heap[b]? = w.heap[b]?) (hr : w'.heap[r]? = w.heap[r]?) : Rng w' b r ek ev l rem := by
  obtain ⟨es, c, s, h1, h2, h3⟩ := h; exact ⟨es, c, s, hb.trans h1, hr.trans h2, h3⟩
theorem Rng.fr {S : Nat → Prop} {w w' : World} {b r : Nat} {l rem : List (κ × ν)} (h : Rng w b r ek ev l rem) (hf : Fr S w w') (hb : ¬ S b) (hr : ¬ S r) : Rng w' b r ek ev l rem :=
  h.of_block (hf.block b h.lt.1 hb) (hf.block r h.lt.2 hr)
theorem Rng.ne {w : World} {b r : Nat} {l rem : List (κ × ν)} (h : Rng w b r ek ev l rem) : b ≠ r := by
  obtain ⟨es, c, s, h1, h2, h3⟩ := h
  intro e; subst e; rw [h1] at h2; cases h2

theorem lenlen {es : List MapEntry} {l : List (κ × ν)} (h : es.map (fun e => (e.key, e.val)) = l.map (fun p => (ek p.1, ev p.2))) : es.length = l.length := by
  have := congrArg List.length h; simpa using this

theorem MapIs.range {w : World} {b : Nat} {l : List (κ × ν)} (h : MapIs w b ek ev l) {t k e : TypeId} (ht : P.underlying t = some (.map k e)) :
    ∃ w', (Instr.range t (.map (some b))).run P w = .ok (.pointer (some ⟨w.heap.size, 0, none⟩)) w' ∧ Rng w' b w.heap.size ek ev l l ∧ Fr Non w w' ∧ w'.heap.size = w.heap.size + 1 := by
  have hlt := h.lt
  obtain ⟨es, clock, hb, h2, h3, h4, h5⟩ := h
  refine ⟨_, run_range_map w t k e b es clock ht hb, ⟨es, clock, #[], ?_, heap_alloc_new w _, h2, h3, h4, h5, ?_⟩, (Fr.refl _ _).alloc _, by simp⟩
  · rw [Below.heap_alloc w _ b hlt]; exact hb
  · have hl := lenlen h2
    have gen : ∀ (l : List (κ × ν)) (m : List Nat), m.length = l.length → l = (l.zip m).filterMap (fun x => if (#[] : Array Nat).contains x.2 then none else some x.1) := by
      intro l
      induction l with
      | nil => intro m _; rfl
      | cons p l ih =>
        intro m hm
        cases m with
        | nil => simp at hm
        | cons a m => have := ih m (by simpa using hm); simp at this ⊢; exact this
    exact gen l _ (by simpa using hl)


def left {α : Type} (z : List (α × Nat)) (seen : Array Nat) : List α := z.filterMap (fun x => if seen.contains x.2 then none else some x.1)

theorem left_skip {α : Type} : ∀ (z : List (α × Nat)) (seen : Array Nat) (n : Nat), (∀ x ∈ z, x.2 ≠ n) → left z (seen.push n) = left z seen := by
  intro z seen n h
  unfold left
  induction z with
  | nil => rfl
  | cons x z ih =>
    have := h x (by simp)
    have e : (seen.push n).contains x.2 = seen.contains x.2 := by
      rw [Bool.eq_iff_iff]
      simp [Array.mem_push, this]
    rw [List.filterMap_cons, List.filterMap_cons, ih (fun y hy => h y (by simp [hy])), e]

theorem left_take {α : Type} : ∀ (z : List (α × Nat)) (seen : Array Nat) (a : α) (n : Nat), (z.map (·.2)).Nodup → (a, n) ∈ z → seen.contains n = false →
    (left z seen).Perm (a :: left z (seen.push n)) := by
  intro z
  induction z with
  | nil => intro seen a n _ h; simp at h
  | cons x z ih =>
    intro seen a n hn h hs
    obtain ⟨c, m⟩ := x
    simp only [List.map_cons, List.nodup_cons] at hn
    by_cases hm : m = n
    · subst hm
      have hca : c = a := by
        rcases List.mem_cons.1 h with h | h
        · simpa using congrArg Prod.fst h.symm
        · exact absurd (List.mem_map.2 ⟨(a, m), h, rfl⟩) hn.1
      subst hca
      have e1 : left ((c, m) :: z) seen = c :: left z seen := by
        unfold left; rw [List.filterMap_cons]; simp only [hs]; rfl
      have e2 : left ((c, m) :: z) (seen.push m) = left z seen := by
        have : (seen.push m).contains m = true := by simp
        have e3 : left ((c, m) :: z) (seen.push m) = left z (seen.push m) := by
          unfold left; rw [List.filterMap_cons]; simp only [this]; rfl
        rw [e3]
        exact left_skip z seen m (fun x hx e => hn.1 (List.mem_map.2 ⟨x, hx, e⟩))
      rw [e1, e2]
    · have hmem : (a, n) ∈ z := by
        rcases List.mem_cons.1 h with h | h
        · exact absurd (congrArg Prod.snd h).symm hm
        · exact h
      have hi := ih seen a n hn.2 hmem hs
      have ec : (seen.push n).contains m = seen.contains m := by rw [Bool.eq_iff_iff]; simp [Array.mem_push, hm]
      have e1 : ∀ sn : Array Nat, left ((c, m) :: z) sn = if sn.contains m then left z sn else c :: left z sn := by
        intro sn; unfold left; rw [List.filterMap_cons]; cases sn.contains m <;> simp
      rw [e1, e1, ec]
      cases seen.contains m with
      | true => simpa using hi
      | false =>
        simp only [Bool.false_eq_true, if_false]
        exact (hi.cons c).trans (List.Perm.swap _ _ _)

theorem left_nil {α : Type} {z : List (α × Nat)} {seen : Array Nat} (h : ∀ x ∈ z, seen.contains x.2 = true) : left z seen = [] := by
  unfold left
  rw [List.filterMap_eq_nil_iff]
  intro x hx; simp only [h x hx, if_true]

theorem Rng.next {w : World} {b r : Nat} {l rem : List (κ × ν)} (h : Rng w b r ek ev l rem) (P : Program) (ty : TypeId) :
    (rem = [] ∧ (Instr.next (.pointer (some ⟨r, 0, none⟩)) false ty).run P w = .ok (.tuple #[.bool false]) w) ∨
    ∃ p rem' w', rem.Perm (p :: rem') ∧ (Instr.next (.pointer (some ⟨r, 0, none⟩)) false ty).run P w = .ok (.tuple #[.bool true, ek p.1, ev p.2]) w' ∧
      Rng w' b r ek ev l rem' ∧ Fr (· = r) w w' ∧ w'.heap.size = w.heap.size ∧
      (∀ w2 : World, w2.heap[b]? = w'.heap[b]? → w2.heap[r]? = w'.heap[r]? → (Instr.entry (.pointer (some ⟨r, 0, none⟩))).run P w2 = .ok (.tuple #[ek p.1, ev p.2]) w2) := by
  have hlt := h.lt
  have hne := h.ne
  obtain ⟨es, clock, seen, hb, hr, h2, h3, h4, h5, hrem⟩ := h
  have hl := lenlen h2
  have hz : (l.zip (es.toList.map (·.born))).map (·.2) = es.toList.map (·.born) := by
    rw [List.map_snd_zip (by simp [hl])]
  have hrem' : rem = left (l.zip (es.toList.map (·.born))) seen := hrem
  rcases run_next_at (P := P) w ty r b clock clock seen es clock hr hb h4 (Nat.le_refl _) with ⟨h0, hrun⟩ | ⟨e, he, w1, hw1, hrun⟩
  · refine .inl ⟨?_, hrun⟩
    rw [hrem']
    refine left_nil ?_
    intro x hx
    have hx2 : x.2 ∈ es.toList.map (·.born) := by rw [← hz]; exact List.mem_map.2 ⟨x, hx, rfl⟩
    obtain ⟨e, he, hxe⟩ := List.mem_map.1 hx2
    have hemp : leftOf es seen = #[] := Array.eq_empty_of_size_eq_zero h0
    unfold leftOf at hemp
    rw [Array.filter_eq_empty_iff] at hemp
    have := hemp e (by simpa using he)
    rw [← hxe]; simpa using this
  · right
    unfold leftOf at he
    simp only [Array.toList_filter, List.mem_filter, Bool.not_eq_true'] at he
    obtain ⟨hem, hes⟩ := he
    obtain ⟨i, hi, hie⟩ := List.getElem_of_mem hem
    have hil : i < l.length := by omega
    have hpe : (ek l[i].1, ev l[i].2) = (e.key, e.val) := by
      have := congrArg (fun L => L[i]?) h2
      simp only [List.getElem?_map, List.getElem?_eq_getElem hi, List.getElem?_eq_getElem hil, Option.map_some, Option.some.injEq, hie] at this
      exact this.symm
    have hmem : (l[i], e.born) ∈ l.zip (es.toList.map (·.born)) := by
      refine List.mem_iff_getElem.2 ⟨i, by simp only [List.length_zip, List.length_map]; omega, ?_⟩
      simp [hie]
    have hfr1 : Fr (· = r) w w1 := by rcases hw1 with rfl | rfl; exact Fr.refl _ _; exact (Fr.refl (· = r) _).drew
    have hsz1 : w1.heap.size = w.heap.size := by rcases hw1 with rfl | rfl <;> rfl
    have hh1 : w1.heap = w.heap := by rcases hw1 with rfl | rfl <;> rfl
    simp only [Prod.mk.injEq] at hpe
    refine ⟨l[i], left (l.zip (es.toList.map (·.born))) (seen.push e.born), _, ?_, by rw [hpe.1, hpe.2]; exact hrun, ⟨es, clock, seen.push e.born, ?_, setBlock_at (by omega) _, h2, h3, h4, h5, rfl⟩,
      hfr1.setBlock (.inr rfl) _, by rw [setBlock_size]; exact hsz1, ?_⟩
    · rw [hrem']; exact left_take _ _ _ _ (by rw [hz]; exact h3) hmem hes
    · rw [setBlock_ne hne, hh1]; exact hb
    · intro w2 hb2 hr2
      rw [setBlock_ne hne, hh1, hb] at hb2
      rw [setBlock_at (by omega)] at hr2
      rw [hpe.1, hpe.2]
      exact run_entry_at w2 r b clock seen es clock e hr2 hb2 hem h3


theorem left_sublist {α : Type} : ∀ (l : List α) (m : List Nat) (seen : Array Nat), (left (l.zip m) seen).Sublist l := by
  intro l
  induction l with
  | nil => intro m seen; simp [left]
  | cons a l ih =>
    intro m seen
    cases m with
    | nil => simp [left]
    | cons n m =>
      have e1 : left ((a :: l).zip (n :: m)) seen = if seen.contains n then left (l.zip m) seen else a :: left (l.zip m) seen := by
        unfold left; rw [List.zip_cons_cons, List.filterMap_cons]; cases seen.contains n <;> simp
      rw [e1]
      cases seen.contains n with
      | true => exact (ih m seen).cons _
      | false => exact (ih m seen).cons_cons _

theorem left_length {α : Type} : ∀ (l : List α) (es : List MapEntry) (seen : Array Nat), es.length = l.length → (left (l.zip (es.map (·.born))) seen).length = (es.filter fun e => !seen.contains e.born).length := by
  intro l
  induction l with
  | nil => intro es seen h; cases es <;> simp_all [left]
  | cons a l ih =>
    intro es seen h
    cases es with
    | nil => simp at h
    | cons e es =>
      have e1 : left ((a :: l).zip ((e :: es).map (·.born))) seen = if seen.contains e.born then left (l.zip (es.map (·.born))) seen else a :: left (l.zip (es.map (·.born))) seen := by
        unfold left; rw [List.map_cons, List.zip_cons_cons, List.filterMap_cons]; cases seen.contains e.born <;> simp
      rw [e1, List.filter_cons]
      have := ih es seen (by simpa using h)
      cases seen.contains e.born <;> simp [this]

theorem Rng.left_eq {w : World} {b r : Nat} {l rem : List (κ × ν)} (h : Rng w b r ek ev l rem) : w.rangeLeft b r = rem.length := by
  obtain ⟨es, c, s, h1, h2, h3, h4, h5, h6, h7⟩ := h
  simp only [World.rangeLeft, h1, h2]
  have e := left_length l es.toList s (lenlen h3)
  have e2 : rem = left (l.zip (es.toList.map (·.born))) s := h7
  rw [e2, e]
  unfold leftOf
  rw [← Array.toList_filter]; rfl

theorem Rng.sub {w : World} {b r : Nat} {l rem : List (κ × ν)} (h : Rng w b r ek ev l rem) : rem.Sublist l := by
  obtain ⟨es, c, s, h1, h2, h3, h4, h5, h6, h7⟩ := h
  rw [h7]; exact left_sublist l _ s

theorem Rng.nodup {w : World} {b r : Nat} {l rem : List (κ × ν)} (h : Rng w b r ek ev l rem) : (keys rem).Nodup := (h.map.nodup).sublist (h.sub.map _)

/-! ### The same at the operations, for the walk -/
def getZ (z : ν) (k : κ) (l : List (κ × ν)) : ν := (look k l).getD z
section
variable (w : World) {ops : Array Oper} {rest : List Oper} {o : Oper} {a : Act} {Q : Exit → Act → World → Prop}

theorem wl_lookup (hg : o.guard = none) (m x : Operand) (t e : TypeId) (hop : o.op = Op.lookup t m x false) (KO : KeyOk P K ek) (ht : P.underlying t = some (.map K e)) (z : ν)
    (hz : ∀ w : World, (zeroValue e).run P w = .ok (ev z) w) (b : Nat) (l : List (κ × ν)) (hm : a.eval m = .map (some b)) (hM : MapIs w b ek ev l) (key : κ) (hx : a.eval x = ek key)
    (hK : wpList P ops Q rest (a.put o.dst (ev (getZ z key l))) w) : wpList P ops Q (o :: rest) a w := by
  refine wpList_plain hg fun K' hK' => ?_
  have hrun := hM.lookup KO ht hz key false
  have e1 : ((look key l).map ev).getD (ev z) = ev (getZ z key l) := by unfold getZ; cases look key l <;> rfl
  rw [e1] at hrun
  unfold Oper.wp
  simp [execOp, hop, hm, hx, hrun, Result.andThen]
  exact hK' _ _ hK

theorem wl_lookup_ok (hg : o.guard = none) (m x : Operand) (t e : TypeId) (hop : o.op = Op.lookup t m x true) (KO : KeyOk P K ek) (ht : P.underlying t = some (.map K e)) (z : ν)
    (hz : ∀ w : World, (zeroValue e).run P w = .ok (ev z) w) (b : Nat) (l : List (κ × ν)) (hm : a.eval m = .map (some b)) (hM : MapIs w b ek ev l) (key : κ) (hx : a.eval x = ek key)
    (hK : wpList P ops Q rest (a.put o.dst (.tuple #[ev (getZ z key l), .bool (look key l).isSome])) w) : wpList P ops Q (o :: rest) a w := by
  refine wpList_plain hg fun K' hK' => ?_
  have hrun := hM.lookup KO ht hz key true
  have e1 : ((look key l).map ev).getD (ev z) = ev (getZ z key l) := by unfold getZ; cases look key l <;> rfl
  rw [e1] at hrun
  unfold Oper.wp
  simp [execOp, hop, hm, hx, hrun, Result.andThen]
  exact hK' _ _ hK

theorem wl_update (hg : o.guard = none) (m x v : Operand) (t e : TypeId) (hop : o.op = Op.mapUpdate t m x v) (KO : KeyOk P K ek) (ht : P.underlying t = some (.map K e))
    (b : Nat) (l : List (κ × ν)) (hm : a.eval m = .map (some b)) (hM : MapIs w b ek ev l) (key : κ) (val : ν) (hx : a.eval x = ek key) (hv : a.eval v = ev val)
    (hK : ∀ w', MapIs w' b ek ev (put key val l) → Fr (· = b) w w' → w'.heap.size = w.heap.size → wpList P ops Q rest (a.put o.dst undef) w') : wpList P ops Q (o :: rest) a w := by
  refine wpList_plain hg fun K' hK' => ?_
  obtain ⟨w', hrun, r1, r2, r3⟩ := hM.update KO ht key val
  unfold Oper.wp
  simp [execOp, hop, hm, hx, hv, hrun, Result.andThen]
  exact hK' _ _ (hK w' r1 r2 r3)

theorem wl_delete (hg : o.guard = none) (m x : Operand) (t kt e : TypeId) (hop : o.op = Op.call { callee := Callee.builtin Builtin.delete, args := #[m, x], argTypes := #[t, kt] }) (KO : KeyOk P K ek)
    (ht : P.underlying t = some (.map K e)) (b : Nat) (l : List (κ × ν)) (hm : a.eval m = .map (some b)) (hM : MapIs w b ek ev l) (key : κ) (hx : a.eval x = ek key)
    (hK : ∀ w', MapIs w' b ek ev (del key l) → Fr (· = b) w w' → w'.heap.size = w.heap.size → wpList P ops Q rest (a.put o.dst (.tuple #[])) w') : wpList P ops Q (o :: rest) a w := by
  refine wpList_plain hg fun K' hK' => ?_
  obtain ⟨w', hrun, r1, r2, r3⟩ := hM.delete KO (ty := o.type) (kt := kt) ht key
  unfold Oper.wp
  simp [execOp, hop, resolve, invoke, builtin, hm, hx, hrun, Result.andThen]
  exact hK' _ _ (hK w' r1 r2 r3)

theorem wl_range (hg : o.guard = none) (m : Operand) (t k e : TypeId) (hop : o.op = Op.range t m) (ht : P.underlying t = some (.map k e)) (b : Nat) (l : List (κ × ν))
    (hm : a.eval m = .map (some b)) (hM : MapIs w b ek ev l)
    (hK : ∀ w', Rng w' b w.heap.size ek ev l l → Fr Non w w' → w'.heap.size = w.heap.size + 1 → wpList P ops Q rest (a.put o.dst (.pointer (some ⟨w.heap.size, 0, none⟩))) w') : wpList P ops Q (o :: rest) a w := by
  refine wpList_plain hg fun K' hK' => ?_
  obtain ⟨w', hrun, r1, r2, r3⟩ := hM.range (P := P) ht
  unfold Oper.wp
  simp [execOp, hop, hm, hrun, Result.andThen]
  exact hK' _ _ (hK w' r1 r2 r3)

theorem wl_next (hg : o.guard = none) (it : Operand) (hop : o.op = Op.next it false) (b r : Nat) (l rem : List (κ × ν)) (hit : a.eval it = .pointer (some ⟨r, 0, none⟩)) (h : Rng w b r ek ev l rem)
    (hDone : rem = [] → wpList P ops Q rest (a.put o.dst (.tuple #[.bool false])) w)
    (hMore : ∀ k v rem' w', rem.Perm ((k, v) :: rem') → Rng w' b r ek ev l rem' → Fr (· = r) w w' → w'.heap.size = w.heap.size →
      (∀ w2 : World, w2.heap[b]? = w'.heap[b]? → w2.heap[r]? = w'.heap[r]? → (Instr.entry (.pointer (some ⟨r, 0, none⟩))).run P w2 = .ok (.tuple #[ek k, ev v]) w2) →
      wpList P ops Q rest (a.put o.dst (.tuple #[.bool true, ek k, ev v])) w') : wpList P ops Q (o :: rest) a w := by
  refine wpList_plain hg fun K' hK' => ?_
  unfold Oper.wp
  rcases h.next P o.type with ⟨h0, hrun⟩ | ⟨⟨k, v⟩, rem', w', hp, hrun, hr, hf, hs, he⟩
  · simp [execOp, hop, hit, hrun, Result.andThen]
    exact hK' _ _ (hDone h0)
  · simp [execOp, hop, hit, hrun, Result.andThen]
    exact hK' _ _ (hMore k v rem' w' hp hr hf hs he)

end
end

/-! ### Numbers of a fixed width, as values that the walk doesn't look into -/
def u32v (x : BitVec 32) : Value := .int .u32 (x.toNat : Int)
def u16v (x : BitVec 16) : Value := .int .u16 (x.toNat : Int)
def u8v (x : BitVec 8) : Value := .int .u8 (x.toNat : Int)

theorem u32v_inj {x y : BitVec 32} (h : u32v x = u32v y) : x = y := by
  unfold u32v at h; simp at h; exact BitVec.eq_of_toNat_eq (by omega)

theorem keyok_conv {κ' : Type} {κ : Type} [DecidableEq κ] [DecidableEq κ'] {P : Program} {K : TypeId} {ek : κ → Value} (h : KeyOk P K ek) (f : κ' → κ) (hf : ∀ a b, f a = f b → a = b) : KeyOk P K (fun x => ek (f x)) where
  find := fun k es ks w he => by
    rw [h.find (f k) es (ks.map f) w (by rw [he, List.map_map]; rfl)]
    have gen : ∀ (ks : List κ') (vs : List Value) (i : Nat), findE (f k) ((ks.map f).zip vs) i = findE k (ks.zip vs) i := by
      intro ks
      induction ks with
      | nil => intro vs i; rfl
      | cons c ks ih =>
        intro vs i
        cases vs with
        | nil => rfl
        | cons v vs =>
          simp only [List.map_cons, List.zip_cons_cons, findE]
          by_cases hk : k = c
          · simp [hk]
          · rw [if_neg (fun e => hk (hf _ _ e)), if_neg hk]; exact ih vs (i + 1)
    rw [gen]
  check := fun emp k w => h.check emp (f k) w
  same := fun k w => h.same (f k) w

theorem u32_keyok {P : Program} {K : TypeId} (hK : P.underlying K = some (.int .u32)) : KeyOk P K u32v :=
  keyok_conv (int_keyok .u32 hK) (fun x : BitVec 32 => (x.toNat : Int)) (fun a b h => BitVec.eq_of_toNat_eq (by omega))

theorem bits_and16 (a b : BitVec 16) : bits .and .u16 (a.toNat : Int) (b.toNat : Int) = ((a &&& b).toNat : Int) := by
  rw [u16_and_nat _ _ a.isLt b.isLt, BitVec.toNat_and]
theorem bits_or16 (a b : BitVec 16) : bits .or .u16 (a.toNat : Int) (b.toNat : Int) = ((a ||| b).toNat : Int) := by
  rw [u16_or_nat _ _ a.isLt b.isLt, BitVec.toNat_or]
theorem bits_andNot16 (a b : BitVec 16) : bits .andNot .u16 (a.toNat : Int) (b.toNat : Int) = ((a &&& ~~~b).toNat : Int) := by
  rw [u16_andNot_nat _ _ a.isLt b.isLt, BitVec.toNat_and, BitVec.toNat_not]

@[go_sem] theorem binOp_and16 (t : TypeId) (a b : BitVec 16) : binOp .and t (u16v a) (u16v b) = pure (u16v (a &&& b)) := by
  have := bits_and16 a b
  simp only [u16v, ← this]; rfl
@[go_sem] theorem binOp_or16 (t : TypeId) (a b : BitVec 16) : binOp .or t (u16v a) (u16v b) = pure (u16v (a ||| b)) := by
  have := bits_or16 a b
  simp only [u16v, ← this]; rfl
@[go_sem] theorem binOp_andNot16 (t : TypeId) (a b : BitVec 16) : binOp .andNot t (u16v a) (u16v b) = pure (u16v (a &&& ~~~b)) := by
  have := bits_andNot16 a b
  simp only [u16v, ← this]; rfl
@[go_sem] theorem binOp_or8 (t : TypeId) (a b : BitVec 8) : binOp .or t (u8v a) (u8v b) = pure (u8v (a ||| b)) := by
  have : bits .or .u8 (a.toNat : Int) (b.toNat : Int) = ((a ||| b).toNat : Int) := by rw [u8_or_nat _ _ a.isLt b.isLt, BitVec.toNat_or]
  simp only [u8v, ← this]; rfl
@[go_sem] theorem binOp_eql16 (t : TypeId) (a b : BitVec 16) : binOp .eql t (u16v a) (u16v b) = pure (.bool (a == b)) := by
  have : ((a.toNat : Int) == (b.toNat : Int)) = (a == b) := by rw [Bool.eq_iff_iff]; simp [BitVec.toNat_eq]; omega
  rw [← this]; rfl
@[go_sem] theorem binOp_neq16 (t : TypeId) (a b : BitVec 16) : binOp .neq t (u16v a) (u16v b) = pure (.bool (a != b)) := by
  have : ((a.toNat : Int) != (b.toNat : Int)) = (a != b) := by rw [Bool.eq_iff_iff]; simp [BitVec.toNat_eq]; omega
  rw [← this]; rfl
@[go_sem] theorem binOp_eql32 (t : TypeId) (a b : BitVec 32) : binOp .eql t (u32v a) (u32v b) = pure (.bool (a == b)) := by
  have : ((a.toNat : Int) == (b.toNat : Int)) = (a == b) := by rw [Bool.eq_iff_iff]; simp [BitVec.toNat_eq]; omega
  rw [← this]; rfl
@[go_sem] theorem binOp_neq32 (t : TypeId) (a b : BitVec 32) : binOp .neq t (u32v a) (u32v b) = pure (.bool (a != b)) := by
  have : ((a.toNat : Int) != (b.toNat : Int)) = (a != b) := by rw [Bool.eq_iff_iff]; simp [BitVec.toNat_eq]; omega
  rw [← this]; rfl
theorem eqc (n : Nat) (a b : BitVec n) : ((a.toNat : Int) == (b.toNat : Int)) = (a == b) := by rw [Bool.eq_iff_iff]; simp [BitVec.toNat_eq]; omega
theorem nec (n : Nat) (a b : BitVec n) : ((a.toNat : Int) != (b.toNat : Int)) = (a != b) := by rw [Bool.eq_iff_iff]; simp [BitVec.toNat_eq]; omega
@[go_sem] theorem binOp_eql8c0 (t : TypeId) (a : BitVec 8) : binOp .eql t (u8v a) (.int .u8 0) = pure (.bool (a == 0#8)) := by
  rw [← eqc]; rfl
@[go_sem] theorem binOp_neq8c0 (t : TypeId) (a : BitVec 8) : binOp .neq t (u8v a) (.int .u8 0) = pure (.bool (a != 0#8)) := by
  rw [← nec]; rfl
@[go_sem] theorem binOp_eql8c1 (t : TypeId) (a : BitVec 8) : binOp .eql t (u8v a) (.int .u8 1) = pure (.bool (a == 1#8)) := by
  rw [← eqc]; rfl
@[go_sem] theorem binOp_neq8c1 (t : TypeId) (a : BitVec 8) : binOp .neq t (u8v a) (.int .u8 1) = pure (.bool (a != 1#8)) := by
  rw [← nec]; rfl
@[go_sem] theorem binOp_eql8c2 (t : TypeId) (a : BitVec 8) : binOp .eql t (u8v a) (.int .u8 2) = pure (.bool (a == 2#8)) := by
  rw [← eqc]; rfl
@[go_sem] theorem binOp_neq8c2 (t : TypeId) (a : BitVec 8) : binOp .neq t (u8v a) (.int .u8 2) = pure (.bool (a != 2#8)) := by
  rw [← nec]; rfl
@[go_sem] theorem binOp_eql8c3 (t : TypeId) (a : BitVec 8) : binOp .eql t (u8v a) (.int .u8 3) = pure (.bool (a == 3#8)) := by
  rw [← eqc]; rfl
@[go_sem] theorem binOp_neq8c3 (t : TypeId) (a : BitVec 8) : binOp .neq t (u8v a) (.int .u8 3) = pure (.bool (a != 3#8)) := by
  rw [← nec]; rfl
@[go_sem] theorem binOp_eql16c0 (t : TypeId) (a : BitVec 16) : binOp .eql t (u16v a) (.int .u16 0) = pure (.bool (a == 0#16)) := by
  rw [← eqc]; rfl
@[go_sem] theorem binOp_neq16c0 (t : TypeId) (a : BitVec 16) : binOp .neq t (u16v a) (.int .u16 0) = pure (.bool (a != 0#16)) := by
  rw [← nec]; rfl
@[go_sem] theorem binOp_eql8 (t : TypeId) (a b : BitVec 8) : binOp .eql t (u8v a) (u8v b) = pure (.bool (a == b)) := by rw [← eqc]; rfl
@[go_sem] theorem binOp_neq8 (t : TypeId) (a b : BitVec 8) : binOp .neq t (u8v a) (u8v b) = pure (.bool (a != b)) := by rw [← nec]; rfl
section
variable (op : BinOp) (t : TypeId) (x y : Operand)
@[go_sem] theorem eqGuard_88 (a : BitVec 8) (b : BitVec 8) : eqGuard op t x y (u8v a) (u8v b) = pure () := by cases op <;> rfl
@[go_sem] theorem eqGuard_8i (a : BitVec 8) (k : IntKind) (n : Int) : eqGuard op t x y (u8v a) (.int k n) = pure () := by cases op <;> rfl
@[go_sem] theorem eqGuard_1616 (a : BitVec 16) (b : BitVec 16) : eqGuard op t x y (u16v a) (u16v b) = pure () := by cases op <;> rfl
@[go_sem] theorem eqGuard_16i (a : BitVec 16) (k : IntKind) (n : Int) : eqGuard op t x y (u16v a) (.int k n) = pure () := by cases op <;> rfl
@[go_sem] theorem eqGuard_3232 (a : BitVec 32) (b : BitVec 32) : eqGuard op t x y (u32v a) (u32v b) = pure () := by cases op <;> rfl
@[go_sem] theorem eqGuard_32i (a : BitVec 32) (k : IntKind) (n : Int) : eqGuard op t x y (u32v a) (.int k n) = pure () := by cases op <;> rfl
end

section
variable (P : Program) (w : World) (a : Addr) (m : Mode)
@[go_sem] theorem run_store_u32v (x : BitVec 32) : (store a (u32v x) m).run P w = stored P w a (u32v x) m := run_store P w a _ m rfl
@[go_sem] theorem run_store_u16v (x : BitVec 16) : (store a (u16v x) m).run P w = stored P w a (u16v x) m := run_store P w a _ m rfl
@[go_sem] theorem run_store_u8v (x : BitVec 8) : (store a (u8v x) m).run P w = stored P w a (u8v x) m := run_store P w a _ m rfl
end

@[go_sem high] theorem cells_u32v (x : BitVec 32) : Value.cells (u32v x) = #[u32v x] := rfl
@[go_sem high] theorem cells_u16v (x : BitVec 16) : Value.cells (u16v x) = #[u16v x] := rfl
@[go_sem high] theorem cells_u8v (x : BitVec 8) : Value.cells (u8v x) = #[u8v x] := rfl

@[go_sem] theorem cellsm_u32v (x : BitVec 32) : Go.Value.cells.match_1 (fun _ => Array Value) (u32v x) (fun cs => cs) (fun v => #[v]) = #[u32v x] := rfl
@[go_sem] theorem cellsm_u16v (x : BitVec 16) : Go.Value.cells.match_1 (fun _ => Array Value) (u16v x) (fun cs => cs) (fun v => #[v]) = #[u16v x] := rfl
@[go_sem] theorem cellsm_u8v (x : BitVec 8) : Go.Value.cells.match_1 (fun _ => Array Value) (u8v x) (fun cs => cs) (fun v => #[v]) = #[u8v x] := rfl

/-! ### Slices that are read -/
section
variable {α : Type}
/-- The cells behind a slice's address hold xs, k cells an element. -/
def RdS (w : World) (a : Option Addr) (k : Nat) (enc : α → List Value) (xs : List α) : Prop :=
  xs ≠ [] → ∃ blk off, a = some ⟨blk, off, none⟩ ∧ ∀ i (h : i < xs.length) j, j < k → w.cell? ⟨blk, off + i * k + j, none⟩ = (enc xs[i])[j]?

theorem RdS.fr {S : Nat → Prop} {w w' : World} {a : Option Addr} {k : Nat} {enc : α → List Value} {xs : List α} (h : RdS w a k enc xs) (hf : Fr S w w')
    (hl : ∀ x, (enc x).length = k) (hk : 0 < k) (hS : ∀ p : Addr, a = some p → ¬ S p.block) : RdS w' a k enc xs := by
  intro hx
  obtain ⟨blk, off, ha, hc⟩ := h hx
  refine ⟨blk, off, ha, fun i hi j hj => ?_⟩
  have hlt : blk < w.heap.size := by
    have h0 : 0 < xs.length := List.length_pos_iff.2 hx
    have := hc 0 h0 0 hk
    rw [List.getElem?_eq_getElem (by rw [hl]; exact hk)] at this
    exact World.block_lt_of_cell? w _ this
  rw [← hc i hi j hj]
  exact World.cell?_of_block (w := w) (hf.block blk hlt (hS _ ha))

theorem RdS.nil (w : World) (a : Option Addr) (k : Nat) (enc : α → List Value) : RdS w a k enc [] := fun h => absurd rfl h
theorem RdS.lt {w : World} {k : Nat} {enc : α → List Value} {xs : List α} {blk off : Nat} (h : RdS w (some ⟨blk, off, none⟩) k enc xs) (hx : xs ≠ []) (hk : 0 < k) (hl : ∀ x, (enc x).length = k) : blk < w.heap.size := by
  obtain ⟨b, o, ha, hc⟩ := h hx
  cases ha
  have := hc 0 (List.length_pos_iff.2 hx) 0 hk
  rw [List.getElem?_eq_getElem (by rw [hl]; exact hk)] at this
  exact World.block_lt_of_cell? w _ this
end

/-! ### Methods called on interface values -/
def MCalls (P : Program) (v : Value) (m : String) (args : Array Value) (w : World) (R : Ending → World → Prop) : Prop :=
  ∃ f args', (callMethod v m args).run P w = .ok (.enter f args') w ∧ Calls P f args' w R

theorem MCalls.mono {P : Program} {v : Value} {m : String} {args : Array Value} {w : World} {R R' : Ending → World → Prop} (h : MCalls P v m args w R) (hr : ∀ e w', R e w' → R' e w') : MCalls P v m args w R' := by
  obtain ⟨f, as, h1, h2⟩ := h
  exact ⟨f, as, h1, h2.mono hr⟩

theorem MCalls.op {P : Program} {w : World} {o : Oper} {a : Act} {x : Operand} {m : String} {tys : Array TypeId} (hop : o.op = Op.call { callee := Callee.invoke x m, args := #[], argTypes := tys })
    {v : Value} (hx : a.eval x = v) {R : Ending → World → Prop} (hc : MCalls P v m #[] w R) : ∃ f as, (execOp a.eval o).run P w = .ok (.enter f as) w ∧ Calls P f as w R := by
  obtain ⟨f, as, hrun, hcalls⟩ := hc
  refine ⟨f, as, ?_, hcalls⟩
  simp only [execOp, hop, resolve, Sem.run_bind, Sem.run, Result.andThen, pure]
  simp only [hx]
  show ((invoke (Target.fn (Fn.method m) #[]) (#[v] ++ Array.map a.eval #[]))).run P w = _
  simp only [invoke]
  simpa using hrun

theorem wl_meth {P : Program} {w : World} {ops : Array Oper} {rest : List Oper} {o : Oper} {a : Act} {Q : Exit → Act → World → Prop}
    (hg : o.guard = none) (x : Operand) (m : String) (tys : Array TypeId) (hop : o.op = Op.call { callee := Callee.invoke x m, args := #[], argTypes := tys }) (v : Value) (hx : a.eval x = v)
    (r : Value) (hc : MCalls P v m #[] w fun e w' => e = .returned r ∧ Fr Non w w') (hK : ∀ w', Fr Non w w' → wpList P ops Q rest (a.put o.dst r) w') : wpList P ops Q (o :: rest) a w := by
  refine wpList_plain hg fun K' hK' => ?_
  obtain ⟨f, as, h1, hcalls⟩ := hc.op hop hx
  unfold Oper.wp
  rw [h1]
  show Calls P f as w _
  refine hcalls.mono ?_
  rintro e w' ⟨rfl, hf⟩
  exact hK' _ _ (hK w' hf)

/-! ### A region that draws its order, whose operations make memory at most: one walk serves every order -/
section
variable {P : Program} {ops : Array Oper} {C : World → Prop} {Q : Act → Prop} {rest : List Oper} {o : Oper} {a : Act}
theorem wq_val (v : Value) (hg : o.guard = none) (h : ∀ w, C w → (execOp a.eval o).run P w = .ok (.value v) w) (hK : wpQuiet P ops C Q rest (a.put o.dst v)) : wpQuiet P ops C Q (o :: rest) a := by
  refine wpQuiet_step fun K hk => ?_
  simp only [Region.wanted, hg, if_true]
  exact ⟨v, fun w hw => by unfold Oper.quietAt; rw [h w hw]; exact ⟨rfl, rfl⟩, hk _ hK⟩
theorem wq_call (v : Value) (hg : o.guard = none) (h : ∀ w, C w → ∃ f as, (execOp a.eval o).run P w = .ok (.enter f as) w ∧ Calls P f as w fun e w' => e = .returned v ∧ C w')
    (hK : wpQuiet P ops C Q rest (a.put o.dst v)) : wpQuiet P ops C Q (o :: rest) a := by
  refine wpQuiet_step fun K hk => ?_
  simp only [Region.wanted, hg, if_true]
  refine ⟨v, fun w hw => ?_, hk _ hK⟩
  obtain ⟨f, as, h1, h2⟩ := h w hw
  unfold Oper.quietAt; rw [h1]; exact ⟨rfl, h2⟩
theorem wq_meth (v : Value) (hg : o.guard = none) (x : Operand) (m : String) (tys : Array TypeId) (hop : o.op = Op.call { callee := Callee.invoke x m, args := #[], argTypes := tys }) (u : Value) (hx : a.eval x = u)
    (hc : ∀ w, C w → MCalls P u m #[] w fun e w' => e = .returned v ∧ C w') (hK : wpQuiet P ops C Q rest (a.put o.dst v)) : wpQuiet P ops C Q (o :: rest) a :=
  wq_call v hg (fun w hw => (hc w hw).op hop hx) hK
end

/-- The cells of what was there read as they did. -/
theorem Fr.cell {S : Nat → Prop} {w w' : World} (h : Fr S w w') {p : Addr} {v : Value} (hc : w.cell? p = some v) (hS : ¬ S p.block) : w'.cell? p = some v :=
  (World.cell?_of_block (w := w) (h.block p.block (World.block_lt_of_cell? w _ hc) hS)).trans hc
theorem Fr.fz {S : Nat → Prop} {w w' : World} (h : Fr S w w') {p : Addr} {v : Value} {b : Bool} (hc : w.cell? p = some v) (hz : w.frozen? p = b) (hS : ¬ S p.block) : w'.frozen? p = b :=
  (World.frozen?_of_block (w := w) (h.block p.block (World.block_lt_of_cell? w _ hc) hS)).trans hz

theorem enters {P : Program} {f : FuncId} {fn : Func} (hf : P.funcs[f]? = some fn) (hname : (fn.name == "runtime.NumGoroutine") = false) (hb : fn.body.isNone = false) (args : Array Value) (w : World) :
    (callFunc f args).run P w = .ok (.enter f args) w := by
  have h1 : fn.name ≠ "runtime.NumGoroutine" := by simpa using hname
  simp only [callFunc, Sem.run_bind, run_program, Result.andThen, hf]
  simp [h1, hb]

theorem exec_call {P : Program} {ρ : Operand → Value} {o : Oper} {f : FuncId} {args : Array Operand} {tys : Array TypeId} (hop : o.op = Op.call { callee := Callee.value (Operand.func f), args := args, argTypes := tys })
    (hρ : ρ (.func f) = .func (.func f) #[] #[]) (he : ∀ as w, (callFunc f as).run P w = .ok (.enter f as) w) (w : World) {as : Array Value} (has : args.toList.map ρ = as.toList) : (execOp ρ o).run P w = .ok (.enter f as) w := by
  obtain rfl : args.map ρ = as := by apply Array.toList_inj.1; rw [Array.toList_map]; exact has
  simp [execOp, hop, resolve, hρ, Deferred.ofValue, invoke, he]

/-! ### Slices that a call makes and appends to -/
structure Elem (P : Program) (t e : TypeId) (k bytes : Nat) : Prop where
  und : P.underlying t = some (.slice e)
  info : ∃ i z, P.info? e = some i ∧ i.zero = some z ∧ i.size = k ∧ i.bytes = bytes ∧ z.cells.size = k
  pos : 0 < k

section
variable {α : Type} {w : World} {base : Nat} {e : TypeId} {k : Nat} {enc : α → List Value} {v : Value} {xs : List α}

def Own (w : World) (base : Nat) (e : TypeId) (k : Nat) (enc : α → List Value) (v : Value) (xs : List α) : Prop := w.ownsRow base e k v xs.length (xs.flatMap enc)

theorem Own.nil (w : World) (base : Nat) (e : TypeId) (k : Nat) (enc : α → List Value) : Own w base e k enc (.slice none 0 0) [] := World.ownsRow_nil w base e k
theorem Own.lt (h : Own w base e k enc v xs) : ∀ i, v.ownBlock = some i → base ≤ i ∧ i < w.heap.size := World.ownsRow.lt h
theorem Own.fr {S : Nat → Prop} {w' : World} (h : Own w base e k enc v xs) (hf : Fr S w w') (hS : ∀ i, v.ownBlock = some i → ¬ S i) : Own w' base e k enc v xs := by
  obtain ⟨h1, h2⟩ := h
  refine ⟨h1, ?_⟩
  rcases h2 with hn | ⟨g, cap, cur, rfl, hb, hgg, rest⟩
  · exact .inl hn
  · refine .inr ⟨g, cap, cur, rfl, hb, ?_, rest⟩
    rw [hf.block g (Array.getElem?_eq_some_iff.1 hgg).1 (hS g rfl)]
    exact hgg
theorem Own.mono (h : Own w base e k enc v xs) {b' : Nat} (hb : b' ≤ base) : Own w b' e k enc v xs := by
  obtain ⟨h1, h2⟩ := h
  refine ⟨h1, ?_⟩
  rcases h2 with hn | ⟨g, cap, cur, rfl, hg, hgg, rest⟩
  · exact .inl hn
  · exact .inr ⟨g, cap, cur, rfl, Nat.le_trans hb hg, hgg, rest⟩

theorem flatMap_get (hl : ∀ x, (enc x).length = k) : ∀ (xs : List α) (i : Nat) (h : i < xs.length) (j : Nat), j < k → (xs.flatMap enc)[i * k + j]? = (enc xs[i])[j]? := by
  intro xs
  induction xs with
  | nil => intro i h; simp at h
  | cons x xs ih =>
    intro i h j hj
    cases i with
    | zero => simp only [List.flatMap_cons, Nat.zero_mul, Nat.zero_add, List.getElem_cons_zero]; rw [List.getElem?_append_left (by rw [hl]; exact hj)]
    | succ i =>
      simp only [List.flatMap_cons, List.getElem_cons_succ]
      rw [List.getElem?_append_right (by rw [hl, Nat.succ_mul]; omega), hl]
      have : (i + 1) * k + j - k = i * k + j := by rw [Nat.succ_mul]; omega
      rw [this]; exact ih i (by simpa using h) j hj

theorem Own.rd (h : Own w base e k enc v xs) (hl : ∀ x, (enc x).length = k) : ∃ a cap, v = .slice a xs.length cap ∧ RdS w a k enc xs ∧ xs.length ≤ cap ∧ cap ≤ maxLen ∧ ∀ p : Addr, a = some p → base ≤ p.block ∧ p.block < w.heap.size := by
  have hlt := h.lt
  obtain ⟨h1, h2⟩ := h
  rcases h2 with ⟨rfl, hn⟩ | ⟨g, cap, cur, rfl, hb, hgg, hcap, hmax, hsz, htake⟩
  · have : xs = [] := List.length_eq_zero_iff.1 hn
    subst this
    exact ⟨none, 0, rfl, RdS.nil _ _ _ _, Nat.le_refl _, Nat.zero_le _, fun p hp => by cases hp⟩
  · refine ⟨some ⟨g, 0, none⟩, cap, rfl, fun _ => ⟨g, 0, rfl, fun i hi j hj => ?_⟩, hcap, hmax, fun p hp => by cases hp; exact hlt g rfl⟩
    have hlt2 : i * k + j < xs.length * k := by
      have : (i + 1) * k ≤ xs.length * k := Nat.mul_le_mul_right k (by omega)
      rw [Nat.succ_mul] at this; omega
    rw [← flatMap_get hl xs i hi j hj, ← htake, List.getElem?_take_of_lt hlt2]
    simp only [World.cell?, hgg, Option.isSome_none, Bool.false_eq_true, if_false, Nat.zero_add, Array.getElem?_toList]

theorem ownBlock_slice (a : Option Addr) (n c : Nat) : (Value.slice a n c).ownBlock = a.map (·.block) := by cases a <;> rfl

/-- 'append(s, x)' of one element. -/
theorem wl_app {P : Program} {ops : Array Oper} {rest : List Oper} {o : Oper} {a : Act} {Q : Exit → Act → World → Prop} (hgd : o.guard = none) (s x : Operand) (t : TypeId)
    (ho : o.op = .call { callee := .builtin .append, args := #[s, x], argTypes := #[t, t] }) {bytes : Nat} (hE : Elem P t e k bytes) {sa : Option Addr} {sc : Nat}
    (hown : Own w base e k enc (.slice sa xs.length sc) xs) (hs : a.eval s = .slice sa xs.length sc)
    (blk c : Nat) (y : α) (hx : a.eval x = .slice (some ⟨blk, 0, none⟩) 1 c) (hl : ∀ x, (enc x).length = k) (hy : ∀ j u, (enc y)[j]? = some u → w.cell? ⟨blk, j, none⟩ = some u) (h1 : ∀ u ∈ enc y, u.oneCell' = true)
    (hn : xs.length + 1 ≤ 8589934592) (hb : bytes ≤ 16384) (hbase : base ≤ w.heap.size)
    (hK : ∀ a' c' w', Own w' base e k enc (.slice a' (xs.length + 1) c') (xs ++ [y]) → Fr (fun i => sa.map (·.block) = some i) w w' → (a'.map (·.block) = sa.map (·.block) ∨ a'.map (·.block) = some w.heap.size) →
      wpList P ops Q rest (a.put o.dst (.slice a' (xs.length + 1) c')) w') :
    wpList P ops Q (o :: rest) a w := by
  obtain ⟨hu, ⟨i, z, hi, hz, hsz, hby, hzs⟩, hp⟩ := hE
  refine wpList_append_own_at w hgd s x t ho base e i z k bytes hu hi hz hsz hby hzs hp _ xs.length (xs.flatMap enc) hs hown ⟨blk, 0, none⟩ 1 c (enc y) hx (by rw [hl]; omega) (fun j u hju => ?_) h1
    (by unfold maxLen; omega) ?_ hbase fun v' w' h2 h3 _ h5 => ?_
  · have := hy j u hju
    by_cases hj : j = 0
    · subst hj; simpa [Addr.add] using this
    · simpa [Addr.add, hj] using this
  · have : (xs.length + 1) * bytes ≤ 8589934592 * 16384 := Nat.mul_le_mul hn hb
    omega
  · have hO : Own w' base e k enc v' (xs ++ [y]) := by
      unfold Own
      rw [List.length_append, List.flatMap_append]
      simpa using h2
    obtain ⟨a', c', hv, _⟩ := hO.rd hl
    rw [List.length_append] at hv
    subst hv
    rw [ownBlock_slice, ownBlock_slice] at h5
    refine hK a' c' w' hO ((Fr.of_grown h3).mono (fun i _ hi => ?_)) h5
    rw [ownBlock_slice] at hi
    exact hi.symm
end

/-! ### Steps over a frame that is not written out -/
section
variable {P : Program} {w : World} {ops : Array Oper} {rest : List Oper} {o : Oper} {a : Act} {Q : Exit → Act → World → Prop}
theorem put_same {t : Nat} {v : Value} (h : t < a.tmps.size) : (a.put (some t) v).eval (.tmp t) = v := by
  simp [Act.put, Act.eval, Array.getD, h]
theorem put_ne {s t : Nat} {v : Value} (h : s ≠ t) : (a.put (some t) v).eval (.tmp s) = a.eval (.tmp s) := by
  have hts : ¬ t = s := fun e => h e.symm
  simp only [Act.put, Act.eval, Array.getD_eq_getD_getElem?, Array.getElem?_setIfInBounds, hts, if_false]
theorem put_size (d : Option Nat) (v : Value) : (a.put d v).tmps.size = a.tmps.size := by cases d <;> simp [Act.put]
theorem put_defers (d : Option Nat) (v : Value) : (a.put d v).defers = a.defers := by cases d <;> simp [Act.put]

theorem wl_val (v : Value) (hg : o.guard = none) (h : (execOp a.eval o).run P w = .ok (.value v) w) (hK : wpList P ops Q rest (a.put o.dst v) w) : wpList P ops Q (o :: rest) a w := by
  refine wpList_plain hg fun K' hK' => ?_
  unfold Oper.wp
  rw [h]
  exact hK' _ _ hK
theorem wl_valw (v : Value) (w' : World) (hg : o.guard = none) (h : (execOp a.eval o).run P w = .ok (.value v) w') (hK : wpList P ops Q rest (a.put o.dst v) w') : wpList P ops Q (o :: rest) a w := by
  refine wpList_plain hg fun K' hK' => ?_
  unfold Oper.wp
  rw [h]
  exact hK' _ _ hK
theorem wl_call {f : FuncId} {args : Array Operand} {tys : Array TypeId} {ars : Array Value} {R : Ending → World → Prop} (hg : o.guard = none) (hop : o.op = Op.call { callee := Callee.value (Operand.func f), args := args, argTypes := tys })
    (he : ∀ ars w, (callFunc f ars).run P w = .ok (.enter f ars) w) (has : args.toList.map a.eval = ars.toList) (hc : Calls P f ars w R)
    (hK : ∀ e w', R e w' → ∃ r, e = .returned r ∧ wpList P ops Q rest (a.put o.dst r) w') : wpList P ops Q (o :: rest) a w := by
  refine wpList_plain hg fun K' hK' => ?_
  have h1 := exec_call (P := P) (ρ := a.eval) hop rfl he w has
  unfold Oper.wp
  rw [h1]
  show Calls P f ars w _
  refine hc.mono ?_
  rintro e w' hR
  obtain ⟨r, rfl, h⟩ := hK e w' hR
  exact hK' _ _ h
end
end Go.Proofs.YtglamkopjjimjaaGreat
