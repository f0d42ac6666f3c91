/-
  The plain law of the keep script: candidates offered one by one; what is kept is the first Pareto front. No Go in sight.
-/
import Derived.Test.Qxb6601457aFord
import Derived.Test.Qxb6601457aKeep
namespace Go.Proofs.Qxb6601457a
set_option linter.unusedSimpArgs false
set_option linter.unusedVariables false

/-- No NaN among a label's floats. -/
def okLab (x : Lab) : Prop := isNan x.wt = false ∧ isNan x.lo = false ∧ isNan x.de = false

theorem asGoodB_iff {x y : Lab} (hx : okLab x) (hy : okLab y) : asGoodB x y = true ↔
    (((fr1 x.wt < fr1 y.wt ∨ (fr1 x.wt = fr1 y.wt ∧ fr2 x.wt < fr2 y.wt)) ∨ ((fr1 x.wt = fr1 y.wt ∧ fr2 x.wt = fr2 y.wt) ∧ (fr1 x.lo < fr1 y.lo ∨ (fr1 x.lo = fr1 y.lo ∧ fr2 x.lo ≤ fr2 y.lo)))) ∧
      (fr1 x.de < fr1 y.de ∨ (fr1 x.de = fr1 y.de ∧ fr2 x.de ≤ fr2 y.de))) ∧ x.ho ≤ y.ho := by
  unfold asGoodB
  simp only [Bool.and_eq_true, Bool.or_eq_true, decide_eq_true_eq]
  rw [flt_iff hx.1 hy.1, feq_iff hx.1 hy.1, fle_iff hx.2.1 hy.2.1, fle_iff hx.2.2 hy.2.2]

theorem asGoodB_refl {x : Lab} (hx : okLab x) : asGoodB x x = true := (asGoodB_iff hx hx).2 ⟨⟨.inr ⟨⟨rfl, rfl⟩, .inr ⟨rfl, Int.le_refl _⟩⟩, .inr ⟨rfl, Int.le_refl _⟩⟩, Int.le_refl _⟩

theorem asGoodB_trans {x y z : Lab} (hx : okLab x) (hy : okLab y) (hz : okLab z) (h1 : asGoodB x y = true) (h2 : asGoodB y z = true) : asGoodB x z = true := by
  rw [asGoodB_iff hx hy] at h1
  rw [asGoodB_iff hy hz] at h2
  rw [asGoodB_iff hx hz]
  omega

section
variable (c : Nat → Lab) (d : Lab)

/-- Candidate t is taken: no earlier one is as good. -/
def accB (t : Nat) : Bool := (List.range t).all fun s => !asGoodB (c s) (c t)
def takenL (t : Nat) : List Nat := (List.range t).filter (accB c)
def numN (t : Nat) : Nat := (takenL c t).length
def labsN (t : Nat) : List Lab := (takenL c t).map c
def survB (n s : Nat) : Bool := (List.range n).all fun u => !(decide (s < u) && accB c u && asGoodB (c u) (c s))
def expU (n t : Nat) : List Nat := ((List.range t).filter fun s => accB c s && survB c n s).map (numN c)
def wantN (t : Nat) : Nat := ((List.range t).map fun s => (expU c s s).length).foldl (· + ·) 0

theorem takenL_succ (t : Nat) : takenL c (t + 1) = takenL c t ++ if accB c t = true then [t] else [] := by
  unfold takenL
  rw [List.range_succ, List.filter_append]
  congr 1
  by_cases h : accB c t = true <;> simp [List.filter_cons, h]

theorem numN_succ (t : Nat) : numN c (t + 1) = numN c t + if accB c t = true then 1 else 0 := by
  unfold numN
  rw [takenL_succ]
  by_cases h : accB c t = true <;> simp [h]

theorem numN_le (t : Nat) : numN c t ≤ t := Nat.le_trans (List.length_filter_le _ _) (by simp)

theorem numN_mono {s t : Nat} (h : s ≤ t) : numN c s ≤ numN c t := by
  induction t with
  | zero => have : s = 0 := by omega
            subst this; exact Nat.le_refl _
  | succ t ih =>
    rcases Nat.lt_or_ge s (t + 1) with h1 | h1
    · have := ih (by omega)
      rw [numN_succ]; omega
    · have : s = t + 1 := by omega
      subst this; exact Nat.le_refl _

theorem numN_lt {s t : Nat} (h : s < t) (ha : accB c s = true) : numN c s < numN c t := by
  have h1 := numN_mono c (show s + 1 ≤ t from h)
  rw [numN_succ, if_pos ha] at h1
  omega

theorem labsN_length (t : Nat) : (labsN c t).length = numN c t := by simp [labsN, numN]

theorem labsN_succ (t : Nat) : labsN c (t + 1) = labsN c t ++ if accB c t = true then [c t] else [] := by
  unfold labsN
  rw [takenL_succ, List.map_append]
  by_cases h : accB c t = true <;> simp [h]

theorem labsN_at {s t : Nat} (h : s < t) (ha : accB c s = true) : (labsN c t).getD (numN c s) d = c s := by
  induction t with
  | zero => omega
  | succ t ih =>
    rw [labsN_succ]
    rcases Nat.lt_or_ge s t with h1 | h1
    · have hl : numN c s < (labsN c t).length := by rw [labsN_length]; exact numN_lt c h1 ha
      rw [← ih h1]
      simp [List.getD, List.getElem?_append, hl]
    · have e : s = t := by omega
      subst e
      rw [if_pos ha, ← labsN_length]
      simp [List.getD]

theorem accB_iff (t : Nat) : accB c t = true ↔ ∀ s, s < t → asGoodB (c s) (c t) = false := by
  unfold accB
  rw [List.all_eq_true]
  simp

theorem survB_iff (n s : Nat) : survB c n s = true ↔ ∀ u, u < n → s < u → accB c u = true → asGoodB (c u) (c s) = false := by
  unfold survB
  rw [List.all_eq_true]
  simp only [List.mem_range, Bool.not_eq_true', Bool.and_eq_false_iff, decide_eq_false_iff_not]
  constructor
  · intro h u hu hs ha
    rcases h u hu with h | h
    · rcases h with h | h
      · exact absurd hs h
      · rw [ha] at h; cases h
    · exact h
  · intro h u hu
    by_cases hs : s < u
    · by_cases ha : accB c u = true
      · exact .inr (h u hu hs ha)
      · exact .inl (.inr (by simpa using ha))
    · exact .inl (.inl hs)

theorem survB_succ (n s : Nat) : survB c (n + 1) s = (survB c n s && !(decide (s < n) && accB c n && asGoodB (c n) (c s))) := by
  unfold survB
  rw [List.range_succ, List.all_append]
  simp

variable {c}

/-- Every earlier candidate has one that is kept and as good. -/
theorem has_kept (hr : ∀ s, asGoodB (c s) (c s) = true) (ht : ∀ a b e, asGoodB (c a) (c b) = true → asGoodB (c b) (c e) = true → asGoodB (c a) (c e) = true) (t : Nat) :
    ∀ s, s < t → ∃ r, r < t ∧ accB c r = true ∧ survB c t r = true ∧ asGoodB (c r) (c s) = true := by
  induction t with
  | zero => intro s hs; omega
  | succ t ih =>
    by_cases ha : accB c t = true
    · -- t is taken
      have hself : survB c (t + 1) t = true := by
        rw [survB_iff]; intro u hu hs; omega
      intro s hs
      rcases Nat.lt_or_ge s t with h1 | h1
      · obtain ⟨r, hrt, hra, hrs, hrg⟩ := ih s h1
        by_cases hg : asGoodB (c t) (c r) = true
        · exact ⟨t, by omega, ha, hself, ht _ _ _ hg hrg⟩
        · refine ⟨r, by omega, hra, ?_, hrg⟩
          rw [survB_succ, hrs]
          simp [hg]
      · have e : s = t := by omega
        subst e
        exact ⟨s, by omega, ha, hself, hr s⟩
    · -- t is not taken
      have hn : ∃ s, s < t ∧ asGoodB (c s) (c t) = true := by
        refine Classical.byContradiction fun hno => ha ((accB_iff c t).2 fun s hs => ?_)
        cases hg : asGoodB (c s) (c t) with
        | false => rfl
        | true => exact absurd ⟨s, hs, hg⟩ hno
      have lift : ∀ r, survB c t r = true → survB c (t + 1) r = true := fun r h => by
        rw [survB_succ, h]; simp [ha]
      intro s hs
      rcases Nat.lt_or_ge s t with h1 | h1
      · obtain ⟨r, hrt, hra, hrs, hrg⟩ := ih s h1
        exact ⟨r, by omega, hra, lift r hrs, hrg⟩
      · have e : s = t := by omega
        subst e
        obtain ⟨q, hq, hqg⟩ := hn
        obtain ⟨r, hrt, hra, hrs, hrg⟩ := ih q hq
        exact ⟨r, by omega, hra, lift r hrs, ht _ _ _ hrg hqg⟩

theorem mem_expU {n t a : Nat} : a ∈ expU c n t ↔ ∃ s, s < t ∧ accB c s = true ∧ survB c n s = true ∧ numN c s = a := by
  unfold expU
  simp only [List.mem_map, List.mem_filter, List.mem_range, Bool.and_eq_true]
  constructor
  · rintro ⟨s, ⟨h1, h2, h3⟩, h4⟩; exact ⟨s, h1, h2, h3, h4⟩
  · rintro ⟨s, h1, h2, h3, h4⟩; exact ⟨s, ⟨h1, h2, h3⟩, h4⟩

theorem expU_lt {t a : Nat} (h : a ∈ expU c t t) : a < numN c t := by
  obtain ⟨s, h1, h2, _, rfl⟩ := mem_expU.1 h
  exact numN_lt c h1 h2

theorem expU_length (n t : Nat) : (expU c n t).length ≤ t := by
  unfold expU
  rw [List.length_map]
  exact Nat.le_trans (List.length_filter_le _ _) (by simp)

/-- 'keep' finds one as good just where the candidate is not to be taken. -/
theorem hit_eq (hr : ∀ s, asGoodB (c s) (c s) = true) (ht : ∀ a b e, asGoodB (c a) (c b) = true → asGoodB (c b) (c e) = true → asGoodB (c a) (c e) = true) (t : Nat) :
    hitB (labsN c t) d (c t) (expU c t t) = !accB c t := by
  cases ha : accB c t with
  | true =>
    rw [Bool.not_true]
    unfold hitB
    rw [List.any_eq_false]
    intro a hmem
    obtain ⟨s, h1, h2, _, rfl⟩ := mem_expU.1 hmem
    rw [labsN_at c d h1 h2, (accB_iff c t).1 ha s h1]
    decide
  | false =>
    rw [Bool.not_false]
    unfold hitB
    rw [List.any_eq_true]
    have hn : ∃ s, s < t ∧ asGoodB (c s) (c t) = true := by
      refine Classical.byContradiction fun hno => ?_
      have : accB c t = true := (accB_iff c t).2 fun s hs => by
        cases hg : asGoodB (c s) (c t) with
        | false => rfl
        | true => exact absurd ⟨s, hs, hg⟩ hno
      rw [ha] at this; cases this
    obtain ⟨q, hq, hqg⟩ := hn
    obtain ⟨r, hrt, hra, hrs, hrg⟩ := has_kept hr ht t q hq
    refine ⟨numN c r, mem_expU.2 ⟨r, hrt, hra, hrs, rfl⟩, ?_⟩
    rw [labsN_at c d hrt hra]
    exact ht _ _ _ hrg hqg

theorem expU_miss {t : Nat} (ha : accB c t = false) : expU c (t + 1) (t + 1) = expU c t t := by
  unfold expU
  rw [List.range_succ, List.filter_append]
  have e : ([t].filter fun s => accB c s && survB c (t + 1) s) = [] := by simp [List.filter_cons, ha]
  rw [e, List.append_nil]
  congr 1
  apply List.filter_congr
  intro s _
  rw [survB_succ]
  simp [ha]

theorem expU_take {t : Nat} (ha : accB c t = true) : expU c (t + 1) (t + 1) = leftL (labsN c t) d (c t) (expU c t t) ++ [numN c t] := by
  have hself : survB c (t + 1) t = true := by
    rw [survB_iff]; intro u hu hs; omega
  unfold expU leftL
  rw [List.range_succ, List.filter_append, List.map_append]
  have e : ([t].filter fun s => accB c s && survB c (t + 1) s) = [t] := by simp [List.filter_cons, ha, hself]
  rw [e]
  congr 1
  rw [List.filter_map, List.filter_filter]
  congr 1
  apply List.filter_congr
  intro s hs
  have hs' : s < t := by simpa using hs
  rw [survB_succ]
  simp only [Function.comp, hs', decide_true, ha, Bool.true_and]
  cases h1 : accB c s with
  | false => simp
  | true =>
    rw [labsN_at c d hs' h1]
    cases asGoodB (c t) (c s) <;> cases survB c t s <;> rfl

theorem expU_step (n t : Nat) : expU c n (t + 1) = expU c n t ++ if (accB c t && survB c n t) = true then [numN c t] else [] := by
  unfold expU
  rw [List.range_succ, List.filter_append, List.map_append]
  congr 1
  by_cases h : (accB c t && survB c n t) = true
  · rw [if_pos h]; simp only [List.filter_cons, h, if_true, List.filter_nil]; rfl
  · rw [if_neg h]; simp only [List.filter_cons, h, List.filter_nil]; rfl

theorem wantN_succ (t : Nat) : wantN c (t + 1) = wantN c t + (expU c t t).length := by
  unfold wantN
  rw [List.range_succ, List.map_append, List.foldl_append]
  rfl

theorem wantN_le (t : Nat) : wantN c t ≤ t * t := by
  induction t with
  | zero => exact Nat.le_refl _
  | succ t ih =>
    rw [wantN_succ]
    have := expU_length (c := c) t t
    have e : (t + 1) * (t + 1) = t * t + 2 * t + 1 := by rw [Nat.add_mul, Nat.mul_add]; omega
    omega
end

end Go.Proofs.Qxb6601457a
