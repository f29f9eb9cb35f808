/- The reference's SameLive. -/
import Derived.Test.YtglamkopjjimjaaGreatFTidy
import Derived.Deep.RegionWith
import Derived.Laws.StructEq
set_option linter.unusedVariables false
set_option linter.unusedSimpArgs false
namespace Go.Proofs.YtglamkopjjimjaaGreat
open Go.RowKit

section
variable {P : Program} {d : Nat} {xs ys : Array Value} {f : Field} {fs : List Field} {a b : Value} {r s : Bool} {w : World}
theorem eqf_one (hn : (f.name == "_") = false) (ha : (part f.type xs f.offset).run P w = .ok a w) (hb : (part f.type ys f.offset).run P w = .ok b w) (he : (Op.equalIn d f.type a b).run P w = .ok r w) : (Op.eqFields d xs ys [f]).run P w = .ok r w := by
  have hn' : f.name ≠ "_" := by simpa using hn
  simp only [Op.eqFields, if_pos hn', Sem.run_bind, ha, hb, he, Result.andThen_ok]
  cases r <;> simp
theorem eqf_more (hn : (f.name == "_") = false) (ha : (part f.type xs f.offset).run P w = .ok a w) (hb : (part f.type ys f.offset).run P w = .ok b w) (he : (Op.equalIn d f.type a b).run P w = .ok r w) (hr : (Op.eqFields d xs ys fs).run P w = .ok s w) : (Op.eqFields d xs ys (f :: fs)).run P w = .ok (r && s) w := by
  have hn' : f.name ≠ "_" := by simpa using hn
  rw [Op.eqFields]
  simp only [if_pos hn', Sem.run_bind, ha, hb, he, Result.andThen_ok]
  cases r
  · simp
  · simpa using hr
theorem eqs_of {t : TypeId} {fs : Array Field} (hu : P.underlying t = some (.struct fs)) (hp : P.stoodInHeld t = false) (h : (Op.eqFields d xs ys fs.toList).run P w = .ok r w) : (Op.equalIn (d + 1) t (.agg xs) (.agg ys)).run P w = .ok r w := by
  have hf : P.fieldsOf t = fs := by simp [Program.fieldsOf, hu]
  rw [run_equalIn_struct (P := P) w d t xs ys (by rw [hf]; exact hu) hp, hf]
  exact h
end

theorem eqLive (d : Nat) (w : World) (x0 y0 : BitVec 32) (x1 y1 : BitVec 16) :
    (Op.equalIn (d + 2) 46 (.agg #[u32v x0, u16v x1]) (.agg #[u32v y0, u16v y1])).run Tryz.prog w = .ok (x0 == y0 && (x1 == y1)) w := by
  refine eqs_of Tryz.underlying46 (by kernel_rfl) ?_
  refine eqf_more (by rfl) (by go_simp; rfl) (by go_simp; rfl) (by unfold u32v; go_simp; exact eqc 32 x0 y0) ?_
  exact eqf_one (by rfl) (by go_simp; rfl) (by go_simp; rfl) (by unfold u16v; go_simp; exact eqc 16 x1 y1)

attribute [local go_sem high] eqLive

set_option maxRecDepth 100000 in
set_option maxHeartbeats 4000000 in
theorem SameLive_c (w : World) (a a2 : Option Addr) (n n2 c c2 : Nat) (l m : LM) (hn : l.length = n) (hm : m.length = n2) (hR : RdS w a 2 encL l) (hR2 : RdS w a2 2 encL m) (hb : n ≤ 4294967296) (hb2 : n2 ≤ 4294967296) :
    Calls Tryz.prog 7 #[.slice a n c, .slice a2 n2 c2] w fun e w' => e = .returned (.bool (decide (l = m))) ∧ Fr Non w w' := by
  subst hn hm
  by_cases hlen : l.length = m.length
  · have Hlen := Lib.hid hlen
    clear hlen
    go_enter Tryz.func7, Tryz.ntmps7
    have hd : ((l.length : Int) != (m.length : Int)) = false := by rw [Hlen.out]; simp
    go_wp2
    go_loopg [5] l.length (fun g si wr => ∃ i : Nat, i ≤ l.length ∧ g = l.length - i ∧ si = .int .i64 i ∧ l.take i = m.take i ∧ Fr Non w wr)
    case atStart => exact ⟨0, Nat.zero_le _, rfl, rfl, rfl, Fr.refl _ _⟩
    case round =>
      obtain ⟨i, hi, rfl, rfl, htk, hF⟩ := hrel
      by_cases hlt : i < l.length
      · have hlt2 : i < m.length := by have := Hlen.out; omega
        obtain ⟨blk, off, rfl, hcell⟩ := hR (fun e => by rw [e] at hlt; simp at hlt)
        obtain ⟨blk2, off2, rfl, hcell2⟩ := hR2 (fun e => by rw [e] at hlt2; simp at hlt2)
        have hw0 := hcell i hlt 0 (by omega)
        have hw1 := hcell i hlt 1 (by omega)
        have hv0 := hcell2 i hlt2 0 (by omega)
        have hv1 := hcell2 i hlt2 1 (by omega)
        simp only [encL, List.getElem?_cons_zero, List.getElem?_cons_succ, Nat.add_zero] at hw0 hw1 hv0 hv1
        have Htl : RowKit.Hid (l.take (i + 1) = l.take i ++ [l[i]]) := Lib.hid (List.take_succ_eq_append_getElem hlt)
        have Htm : RowKit.Hid (m.take (i + 1) = m.take i ++ [m[i]]) := Lib.hid (List.take_succ_eq_append_getElem hlt2)
        have Htk := Lib.hid htk
        clear hcell hcell2 hR hR2 htk
        generalize l[i] = y at *
        generalize m[i] = z at *
        obtain ⟨ya, yv⟩ := y
        obtain ⟨za, zv⟩ := z
        simp only at hw0 hw1 hv0 hv1
        have hd0 := hF.cell hw0 (fun h => h)
        have hd1 := hF.cell hw1 (fun h => h)
        have he0 := hF.cell hv0 (fun h => h)
        have he1 := hF.cell hv1 (fun h => h)
        by_cases hyz : ya = za ∧ yv = zv
        · obtain ⟨rfl, rfl⟩ := hyz
          go_wp2
          go_quiet (fail)
          go_wp2
          go_roundg (l.length - (i + 1))
          case measure => omega
          case rel => exact ⟨i + 1, by omega, rfl, by go_num, by rw [Htl.out, Htm.out, Htk.out], hF.drewN nq⟩
        · have hdec : (!ya == za || !yv == zv) = true := by
            by_cases h1 : ya = za
            · by_cases h2 : yv = zv
              · exact absurd ⟨h1, h2⟩ hyz
              · simp [h1, h2]
            · simp [h1]
          have hne : decide (l = m) = false := by
            rw [decide_eq_false_iff_not]
            intro e
            have h1 := Htl.out
            rw [e] at h1
            rw [Htm.out] at h1
            have h2 := List.append_inj_right' h1 rfl
            simp at h2
            exact hyz ⟨h2.1.symm, h2.2.symm⟩
          have Hne := Lib.hid hne
          clear hne hyz
          go_wp2
          go_quiet (fail)
          go_wp2
          go_ret
          rw [Hne.out]
          exact ⟨rfl, hF.drewN nq⟩
      · have hil : i = l.length := by omega
        have heq : decide (l = m) = true := by
          rw [decide_eq_true_iff]
          have h1 := htk
          rw [hil, List.take_length, Hlen.out, List.take_length] at h1
          exact h1
        have Heq := Lib.hid heq
        clear heq htk
        go_wp2
        go_ret
        rw [Heq.out]
        exact ⟨rfl, hF⟩
  · have hd : ((l.length : Int) != (m.length : Int)) = true := by simp; omega
    go_enter Tryz.func7, Tryz.ntmps7
    have hne : decide (l = m) = false := by
      rw [decide_eq_false_iff_not]; intro e; rw [e] at hlen; exact hlen rfl
    have Hne := Lib.hid hne
    clear hne hlen
    go_wp2
    go_ret
    rw [Hne.out]
    exact ⟨rfl, Fr.refl _ _⟩

end Go.Proofs.YtglamkopjjimjaaGreat
