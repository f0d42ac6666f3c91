/-
  Entries, their rank and their key, by lists of integers; bags of entries by counting. No Go in sight.
-/
import Derived.Test.Qxb6601457aFord
namespace Go.Proofs.Qxb6601457a
set_option linter.unusedSimpArgs false
set_option linter.unusedVariables false

/-- An entry, field by field: at, cost, delay (bits of float64), hops. -/
structure Ent where
  at_ : Int
  co : Nat
  de : Nat
  ho : Int

def ent0 : Ent := ⟨0, 0, 0, 0⟩

/-- No NaN. -/
def nn (x : Ent) : Prop := isNan x.co = false ∧ isNan x.de = false

/-- rank less, as Go says it -/
def rl (a b : Ent) : Bool := flt a.co b.co || (feq a.co b.co && (flt a.de b.de || (feq a.de b.de && decide (a.ho < b.ho))))
def sameE (a b : Ent) : Bool := decide (a.at_ = b.at_) && sameF a.co b.co && sameF a.de b.de && decide (a.ho = b.ho)

def llt : List Int → List Int → Bool
  | x :: xs, y :: ys => decide (x < y) || (decide (x = y) && llt xs ys)
  | _, _ => false

theorem llt_irrefl : ∀ a, llt a a = false
  | [] => rfl
  | x :: xs => by simp [llt, llt_irrefl xs]

theorem llt_trans : ∀ {a b c : List Int}, llt a b = true → llt b c = true → llt a c = true
  | x :: xs, y :: ys, z :: zs, h1, h2 => by
    simp only [llt, Bool.or_eq_true, Bool.and_eq_true, decide_eq_true_eq] at h1 h2 ⊢
    rcases h1 with h1 | ⟨h1, g1⟩ <;> rcases h2 with h2 | ⟨h2, g2⟩
    · left; omega
    · left; omega
    · left; omega
    · right; exact ⟨by omega, llt_trans g1 g2⟩
  | [], _, _, h, _ => by simp [llt] at h
  | _ :: _, [], _, h, _ => by simp [llt] at h
  | _ :: _, _ :: _, [], _, h => by simp [llt] at h

theorem llt_tri : ∀ {a b : List Int}, a.length = b.length → llt a b = false → llt b a = false → a = b
  | [], [], _, _, _ => rfl
  | x :: xs, y :: ys, hl, h1, h2 => by
    simp only [llt, Bool.or_eq_false_iff, Bool.and_eq_false_iff, decide_eq_false_iff_not] at h1 h2
    have e : x = y := by omega
    subst e
    have g1 := h1.2.resolve_left (by simp)
    have g2 := h2.2.resolve_left (by simp)
    rw [llt_tri (by simpa using hl) g1 g2]
  | [], _ :: _, hl, _, _ => by simp at hl
  | _ :: _, [], hl, _, _ => by simp at hl

/-- not less is transitive -/
theorem lle_trans {a b c : List Int} (h1 : a.length = b.length) (h2 : b.length = c.length) (hab : llt b a = false) (hbc : llt c b = false) : llt c a = false := by
  cases h : llt c a with
  | false => rfl
  | true =>
    cases h3 : llt a b with
    | true => rw [llt_trans h h3] at hbc; cases hbc
    | false =>
      have := llt_tri h1 h3 hab
      subst this
      rw [h] at hbc; cases hbc

theorem llt_asymm {a b : List Int} (h : llt a b = true) : llt b a = false := by
  cases h2 : llt b a with
  | false => rfl
  | true => have := llt_trans h h2; rw [llt_irrefl] at this; cases this

def rank (x : Ent) : List Int := [fr1 x.co, fr2 x.co, fr1 x.de, fr2 x.de, x.ho]
def bz (b : Bool) : Int := if b then 0 else 1
def key (x : Ent) : List Int := [fr1 x.co, fr2 x.co, fr1 x.de, fr2 x.de, x.ho, x.at_, bz (negz x.co), bz (negz x.de)]
def klt (a b : Ent) : Bool := llt (key a) (key b)

theorem rl_eq {a b : Ent} (ha : nn a) (hb : nn b) : rl a b = llt (rank a) (rank b) := by
  have h1 := flt_iff ha.1 hb.1
  have h2 := feq_iff ha.1 hb.1
  have h3 := flt_iff ha.2 hb.2
  have h4 := feq_iff ha.2 hb.2
  rw [Bool.eq_iff_iff]
  simp only [rl, rank, llt, Bool.or_eq_true, Bool.and_eq_true, decide_eq_true_eq, h1, h2, h3, h4]
  simp only [Bool.false_eq_true, and_false, or_false]
  omega

theorem klt_of_rl {a b : Ent} (ha : nn a) (hb : nn b) (h : rl a b = true) : klt a b = true := by
  rw [rl_eq ha hb] at h
  simp only [klt, key, rank, llt, Bool.or_eq_true, Bool.and_eq_true, decide_eq_true_eq, Bool.false_eq_true, and_false, or_false] at h ⊢
  omega

theorem bz_inj {a b : Bool} : bz a = bz b ↔ a = b := by cases a <;> cases b <;> decide

theorem same_iff {a b : Ent} (ha : nn a) (hb : nn b) : sameE a b = true ↔ key a = key b := by
  have h2 := feq_iff ha.1 hb.1
  have h4 := feq_iff ha.2 hb.2
  simp only [sameE, sameF, key, Bool.and_eq_true, decide_eq_true_eq, h2, h4, beq_iff_eq, List.cons.injEq, and_true, bz_inj]
  constructor
  · rintro ⟨⟨⟨a1, ⟨a2, a3⟩, a4⟩, ⟨a5, a6⟩, a7⟩, a8⟩
    exact ⟨a2, a3, a5, a6, a8, a1, a4, a7⟩
  · rintro ⟨a2, a3, a5, a6, a8, a1, a4, a7⟩
    exact ⟨⟨⟨a1, ⟨a2, a3⟩, a4⟩, ⟨a5, a6⟩, a7⟩, a8⟩

theorem klt_irrefl (a : Ent) : klt a a = false := llt_irrefl _
theorem kle_trans {a b c : Ent} (h1 : klt b a = false) (h2 : klt c b = false) : klt c a = false := lle_trans (by rfl) (by rfl) h1 h2
theorem klt_asymm {a b : Ent} (h : klt a b = true) : klt b a = false := llt_asymm h
theorem key_eq {a b : Ent} (h1 : klt a b = false) (h2 : klt b a = false) : key a = key b := llt_tri (by rfl) h1 h2
theorem klt_trans {a b c : Ent} (h1 : klt a b = true) (h2 : klt b c = true) : klt a c = true := llt_trans h1 h2

/-! ### Go's comparisons -/
def cF (x y : Nat) : Int := if flt x y then -1 else if flt y x then 1 else 0
def cI (x y : Int) : Int := if x < y then -1 else if y < x then 1 else 0
def cS (x y : Nat) : Int := if negz x && !negz y then -1 else if negz y && !negz x then 1 else 0
def cmpE (a b : Ent) : Int :=
  if cF a.co b.co ≠ 0 then cF a.co b.co else if cF a.de b.de ≠ 0 then cF a.de b.de else if cI a.ho b.ho ≠ 0 then cI a.ho b.ho
  else if cI a.at_ b.at_ ≠ 0 then cI a.at_ b.at_ else if cS a.co b.co ≠ 0 then cS a.co b.co else cS a.de b.de

theorem cS_eq (x y : Nat) : cS x y = cI (bz (negz x)) (bz (negz y)) := by
  unfold cS
  cases negz x <;> cases negz y <;> decide

theorem cF_tri {x y : Nat} (hx : isNan x = false) (hy : isNan y = false) : (cF x y = -1 ∧ (fr1 x < fr1 y ∨ fr1 x = fr1 y ∧ fr2 x < fr2 y)) ∨ (cF x y = 1 ∧ (fr1 y < fr1 x ∨ fr1 y = fr1 x ∧ fr2 y < fr2 x)) ∨ (cF x y = 0 ∧ fr1 x = fr1 y ∧ fr2 x = fr2 y) := by
  have h1 := flt_iff hx hy
  have h2 := flt_iff hy hx
  unfold cF
  simp only [h1, h2]
  repeat' split
  all_goals omega

theorem cI_tri (x y : Int) : (cI x y = -1 ∧ x < y) ∨ (cI x y = 1 ∧ y < x) ∨ (cI x y = 0 ∧ x = y) := by
  unfold cI
  repeat' split
  all_goals omega

theorem klt_iff (a b : Ent) : klt a b = true ↔ (fr1 a.co < fr1 b.co ∨ fr1 a.co = fr1 b.co ∧ (fr2 a.co < fr2 b.co ∨ fr2 a.co = fr2 b.co ∧ (fr1 a.de < fr1 b.de ∨ fr1 a.de = fr1 b.de ∧ (fr2 a.de < fr2 b.de ∨ fr2 a.de = fr2 b.de ∧ (a.ho < b.ho ∨ a.ho = b.ho ∧ (a.at_ < b.at_ ∨ a.at_ = b.at_ ∧ (bz (negz a.co) < bz (negz b.co) ∨ bz (negz a.co) = bz (negz b.co) ∧ bz (negz a.de) < bz (negz b.de)))))))) := by
  simp only [klt, key, llt, Bool.or_eq_true, Bool.and_eq_true, decide_eq_true_eq, Bool.false_eq_true, and_false, or_false]

theorem cmp_neg {a b : Ent} (ha : nn a) (hb : nn b) : cmpE a b < 0 ↔ klt a b = true := by
  rw [klt_iff]
  unfold cmpE
  rw [cS_eq, cS_eq]
  rcases cF_tri ha.1 hb.1 with ⟨e, h⟩ | ⟨e, h⟩ | ⟨e, h, h'⟩
  · rw [e]; simp only [ne_eq, Int.reduceNeg, Int.reduceEq, not_false_eq_true, if_true]; omega
  · rw [e]; simp only [ne_eq, Int.reduceEq, not_false_eq_true, if_true]; omega
  rw [if_neg (by omega), h, h']
  simp only [Int.lt_irrefl, false_or, true_and]
  clear e h h'
  rcases cF_tri ha.2 hb.2 with ⟨e, h⟩ | ⟨e, h⟩ | ⟨e, h, h'⟩
  · rw [e]; simp only [ne_eq, Int.reduceNeg, Int.reduceEq, not_false_eq_true, if_true]; omega
  · rw [e]; simp only [ne_eq, Int.reduceEq, not_false_eq_true, if_true]; omega
  rw [if_neg (by omega), h, h']
  simp only [Int.lt_irrefl, false_or, true_and]
  clear e h h'
  rcases cI_tri a.ho b.ho with ⟨e, h⟩ | ⟨e, h⟩ | ⟨e, h⟩
  · rw [e]; simp only [ne_eq, Int.reduceNeg, Int.reduceEq, not_false_eq_true, if_true]; omega
  · rw [e]; simp only [ne_eq, Int.reduceEq, not_false_eq_true, if_true]; omega
  rw [if_neg (by omega), h]
  simp only [Int.lt_irrefl, false_or, true_and]
  clear e h
  rcases cI_tri a.at_ b.at_ with ⟨e, h⟩ | ⟨e, h⟩ | ⟨e, h⟩
  · rw [e]; simp only [ne_eq, Int.reduceNeg, Int.reduceEq, not_false_eq_true, if_true]; omega
  · rw [e]; simp only [ne_eq, Int.reduceEq, not_false_eq_true, if_true]; omega
  rw [if_neg (by omega), h]
  simp only [Int.lt_irrefl, false_or, true_and]
  clear e h
  rcases cI_tri (bz (negz a.co)) (bz (negz b.co)) with ⟨e, h⟩ | ⟨e, h⟩ | ⟨e, h⟩
  · rw [e]; simp only [ne_eq, Int.reduceNeg, Int.reduceEq, not_false_eq_true, if_true]; omega
  · rw [e]; simp only [ne_eq, Int.reduceEq, not_false_eq_true, if_true]; omega
  rw [if_neg (by omega), h]
  simp only [Int.lt_irrefl, false_or, true_and]
  clear e h
  rcases cI_tri (bz (negz a.de)) (bz (negz b.de)) with ⟨e, h⟩ | ⟨e, h⟩ | ⟨e, h⟩
  all_goals (rw [e]; omega)

theorem cmp_iff {a b : Ent} (ha : nn a) (hb : nn b) : decide (0 ≤ cmpE a b) = !klt a b := by
  have k := cmp_neg ha hb
  cases h : klt a b with
  | true => have := k.2 h; simp; omega
  | false => rw [h] at k; simp at k ⊢; omega

/-! ### Bags -/
def SB (l m : List Ent) : Prop := ∀ p : Ent → Bool, l.countP p = m.countP p

theorem SB.refl (l : List Ent) : SB l l := fun _ => rfl
theorem SB.symm {l m : List Ent} (h : SB l m) : SB m l := fun p => (h p).symm
theorem SB.trans {l m k : List Ent} (h : SB l m) (g : SB m k) : SB l k := fun p => (h p).trans (g p)
theorem SB.length {l m : List Ent} (h : SB l m) : l.length = m.length := by
  have := h (fun _ => true)
  simpa using this
theorem SB.all {l m : List Ent} (h : SB l m) {q : Ent → Prop} (hq : ∀ x ∈ l, q x) : ∀ x ∈ m, q x := by
  classical
  intro x hx
  by_cases hqx : q x
  · exact hqx
  · have e := h (fun y => decide (¬ q y))
    have z : l.countP (fun y => decide (¬ q y)) = 0 := by
      rw [List.countP_eq_zero]
      intro y hy
      simp [hq y hy]
    rw [z] at e
    have := (List.countP_eq_zero.1 e.symm) x hx
    simp [hqx] at this

def srt (l : List Ent) : Prop := l.Pairwise (fun x y => klt y x = false)

theorem srt_get {l : List Ent} (h : srt l) {i j : Nat} (hij : i < j) {x y : Ent} (hx : l[i]? = some x) (hy : l[j]? = some y) : klt y x = false := by
  obtain ⟨hi, ex⟩ := List.getElem?_eq_some_iff.1 hx
  obtain ⟨hj, ey⟩ := List.getElem?_eq_some_iff.1 hy
  have := List.pairwise_iff_getElem.1 h i j hi hj hij
  rw [ex, ey] at this
  exact this

theorem srt_below {l m : List Ent} (hl : srt l) (hm : srt m) (h : SB l m) {i : Nat} {x y : Ent} (hx : l[i]? = some x) (hy : m[i]? = some y) : klt x y = false := by
  cases hk : klt x y with
  | false => rfl
  | true =>
    exfalso
    obtain ⟨hi, ex⟩ := List.getElem?_eq_some_iff.1 hx
    obtain ⟨hj, ey⟩ := List.getElem?_eq_some_iff.1 hy
    have e := h (fun z => !klt x z)
    have h1 : i + 1 ≤ l.countP (fun z => !klt x z) := by
      rw [← List.take_append_drop (i + 1) l, List.countP_append]
      have : (l.take (i + 1)).countP (fun z => !klt x z) = i + 1 := by
        rw [List.countP_eq_length.2, List.length_take]
        · omega
        · intro z hz
          obtain ⟨k, hk'⟩ := List.mem_iff_getElem?.1 hz
          rw [List.getElem?_take] at hk'
          split at hk'
          · rename_i hlt
            by_cases hki : k = i
            · subst hki
              rw [hx] at hk'
              cases hk'
              simp [klt_irrefl]
            · simp [srt_get hl (show k < i by omega) hk' hx]
          · cases hk'
      omega
    have h2 : m.countP (fun z => !klt x z) ≤ i := by
      rw [← List.take_append_drop i m, List.countP_append]
      have z1 : (m.drop i).countP (fun z => !klt x z) = 0 := by
        rw [List.countP_eq_zero]
        intro z hz
        obtain ⟨k, hk'⟩ := List.mem_iff_getElem?.1 hz
        rw [List.getElem?_drop] at hk'
        have : klt x z = true := by
          by_cases h0 : k = 0
          · subst h0
            rw [Nat.add_zero, hy] at hk'
            cases hk'
            exact hk
          · have := srt_get hm (show i < i + k by omega) hy hk'
            cases hz2 : klt x z with
            | true => rfl
            | false =>
              have := kle_trans (a := y) (b := z) (c := x) this hz2
              rw [hk] at this; cases this
        simp [this]
      have z2 : (m.take i).countP (fun z => !klt x z) ≤ (m.take i).length := List.countP_le_length
      rw [List.length_take] at z2
      omega
    omega

/-- Two sorted lists of one bag hold the same keys, place by place. -/
theorem srt_key {l m : List Ent} (hl : srt l) (hm : srt m) (h : SB l m) {i : Nat} {x y : Ent} (hx : l[i]? = some x) (hy : m[i]? = some y) : key x = key y :=
  key_eq (srt_below hl hm h hx hy) (srt_below hm hl h.symm hy hx)

end Go.Proofs.Qxb6601457a
