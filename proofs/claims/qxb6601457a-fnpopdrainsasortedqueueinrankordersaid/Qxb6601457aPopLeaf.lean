import Derived.Test.Qxb6601457aRows
import Derived.Test.Qxb6601457aPopRow
import Derived.Test.Qxb6601457aLeaf
namespace Go.Proofs.Qxb6601457a
set_option linter.unusedSimpArgs false
set_option linter.unusedVariables false
open Go.RowKit
attribute [local go_sem] run_store_float

/-- an entry as a Go value -/
def ev (x : Ent) : Value := .agg #[.int .i64 x.at_, .float .f64 x.co, .float .f64 x.de, .int .i64 x.ho]

def bi (b : Bool) : Int := if b then 1 else 0
theorem bi_and (a b : Bool) : bits .and .i64 (bi a) (bi b) = bi (a && b) := by cases a <;> cases b <;> decide
theorem bi_or (a b : Bool) : bits .or .i64 (bi a) (bi b) = bi (a || b) := by cases a <;> cases b <;> decide

theorem bit_any (b : Bool) (w : World) : Calls Try.prog 43 #[.bool b] w fun e w' => e = .returned (.int .i64 (bi b)) ∧ w' = w := by
  cases b
  all_goals
    go_enter Try.func43, Try.ntmps43
    go_wp2
    go_ret
    exact ⟨rfl, rfl⟩

theorem cmpF_any (x y : Nat) (w : World) : Calls Try.prog 39 #[.float .f64 x, .float .f64 y] w fun e w' => e = .returned (.int .i64 (cF x y)) ∧ w' = w := by
  go_enter Try.func39, Try.ntmps39
  go_wp2
  all_goals (go_ret; exact ⟨by simp_all [cF, flt, ford], rfl⟩)

theorem cmpI_any (x y : Int) (w : World) : Calls Try.prog 40 #[.int .i64 x, .int .i64 y] w fun e w' => e = .returned (.int .i64 (cI x y)) ∧ w' = w := by
  go_enter Try.func40, Try.ntmps40
  go_wp2
  all_goals (go_ret; exact ⟨by unfold cI; first | (rw [if_pos (by omega)]; rfl) | (rw [if_neg (by omega), if_pos (by omega)]; rfl) | (rw [if_neg (by omega), if_neg (by omega)]; rfl), rfl⟩)

theorem cmpSign_any (x y : Nat) (w : World) : Calls Try.prog 41 #[.float .f64 x, .float .f64 y] w fun e w' => e = .returned (.int .i64 (cS x y)) ∧ w' = w := by
  cases hx : negz x <;> cases hy : negz y
  all_goals
    have HX : Hid _ := hx
    have HY : Hid _ := hy
    clear hx hy
    go_enter Try.func41, Try.ntmps41
    go_wp2_with (go_at_call 38; first | (have HQ := HZ; refine (negZero_any y _).mono ?_; rintro e wx ⟨rfl, hwx⟩; subst hwx; rw [HY.out]) | (refine (negZero_any x _).mono ?_; rintro e wx ⟨rfl, hwx⟩; subst hwx; rw [HX.out]; have HZ : Hid True := trivial))
    go_ret
    exact ⟨by simp [cS, HX.out, HY.out], rfl⟩

theorem sameF_any (x y : Nat) (w : World) : Calls Try.prog 28 #[.float .f64 x, .float .f64 y] w fun e w' => e = .returned (.bool (sameF x y)) ∧ w' = w := by
  by_cases h : FloatKind.f64.format.order x y = some .eq
  · go_enter Try.func28, Try.ntmps28
    go_wp2_with (go_at_call 38; refine (negZero_any _ _).mono ?_; rintro e wx ⟨rfl, rfl⟩)
    go_ret
    exact ⟨by simp [sameF, feq, ford, h], rfl⟩
  · have ho : (FloatKind.f64.format.order x y == some .eq) = false := by simpa using h
    go_enter Try.func28, Try.ntmps28
    go_wp2
    go_ret
    exact ⟨by simp [sameF, feq, ford, h], rfl⟩

set_option maxHeartbeats 1000000 in
theorem rankLess_any (a1 : Int) (c1 d1 : Nat) (h1 a2 : Int) (c2 d2 : Nat) (h2 : Int) (w : World) :
    Calls Try.prog 9 #[.agg #[.int .i64 a1, .float .f64 c1, .float .f64 d1, .int .i64 h1], .agg #[.int .i64 a2, .float .f64 c2, .float .f64 d2, .int .i64 h2]] w fun e w' => e = .returned (.bool (rl ⟨a1, c1, d1, h1⟩ ⟨a2, c2, d2, h2⟩)) ∧ Below w.heap.size w w' := by
  go_enter Try.func9, Try.ntmps9
  go_wp2
  all_goals (go_ret; exact ⟨by simp [rl, flt, feq, ford, *], ((Below.refl _ _).alloc (Nat.le_refl _) _).alloc (by simp) _⟩)

set_option maxHeartbeats 1000000 in
theorem before_any (a1 : Int) (c1 d1 : Nat) (h1 a2 : Int) (c2 d2 : Nat) (h2 : Int) (w : World) (n1 : nn ⟨a1, c1, d1, h1⟩) (n2 : nn ⟨a2, c2, d2, h2⟩) :
    Calls Try.prog 37 #[.agg #[.int .i64 a1, .float .f64 c1, .float .f64 d1, .int .i64 h1], .agg #[.int .i64 a2, .float .f64 c2, .float .f64 d2, .int .i64 h2]] w fun e w' => e = .returned (.bool (rl ⟨a1, c1, d1, h1⟩ ⟨a2, c2, d2, h2⟩)) ∧ Below w.heap.size w w' := by
  go_enter Try.func37, Try.ntmps37
  go_wp2
  all_goals (go_ret; refine ⟨?_, ((Below.refl _ _).alloc (Nat.le_refl _) _).alloc (by simp) _⟩)
  all_goals (refine congrArg (fun b => Ending.returned (.bool b)) (?_ : _ = _); simp only [bne_iff_ne, ne_eq, Bool.not_eq_true, bne_eq_false_iff_eq] at *)
  all_goals first | (simp [rl, flt, feq, ford, *]; done) | trace_state

set_option maxHeartbeats 1000000 in
theorem ahead_any (a1 : Int) (c1 d1 : Nat) (h1 a2 : Int) (c2 d2 : Nat) (h2 : Int) (w : World) :
    Calls Try.prog 36 #[.agg #[.int .i64 a1, .float .f64 c1, .float .f64 d1, .int .i64 h1], .agg #[.int .i64 a2, .float .f64 c2, .float .f64 d2, .int .i64 h2]] w fun e w' => e = .returned (.int .i64 (bi (rl ⟨a1, c1, d1, h1⟩ ⟨a2, c2, d2, h2⟩))) ∧ Below w.heap.size w w' := by
  go_enter Try.func36, Try.ntmps36
  go_wp2
  go_quiet ((go_at_call 43; exact Calls.quiet_of_same (bit_any _ _)))
  go_wp2
  go_ret
  refine ⟨?_, below_drewN (((Below.refl _ _).alloc (Nat.le_refl _) _).alloc (by simp) _) _⟩
  refine congrArg (fun b => Ending.returned (.int .i64 b)) (?_ : _ = _)
  rw [bi_and, bi_or, bi_and, bi_or]
  rfl

set_option maxHeartbeats 1000000 in
theorem same_any (a1 : Int) (c1 d1 : Nat) (h1 a2 : Int) (c2 d2 : Nat) (h2 : Int) (w : World) :
    Calls Try.prog 12 #[.agg #[.int .i64 a1, .float .f64 c1, .float .f64 d1, .int .i64 h1], .agg #[.int .i64 a2, .float .f64 c2, .float .f64 d2, .int .i64 h2]] w fun e w' => e = .returned (.bool (sameE ⟨a1, c1, d1, h1⟩ ⟨a2, c2, d2, h2⟩)) ∧ Below w.heap.size w w' := by
  go_enter Try.func12, Try.ntmps12
  go_wp2_with (go_at_call 28; refine (sameF_any _ _ _).mono ?_; rintro e wx ⟨rfl, rfl⟩)
  all_goals (go_ret; exact ⟨by first | (simp [sameE, *]; done) | (simp [sameE, *]; rfl), ((Below.refl _ _).alloc (Nat.le_refl _) _).alloc (by simp) _⟩)

set_option maxHeartbeats 1000000 in
theorem totalCmp_any (a1 : Int) (c1 d1 : Nat) (h1 a2 : Int) (c2 d2 : Nat) (h2 : Int) (w : World) :
    Calls Try.prog 30 #[.agg #[.int .i64 a1, .float .f64 c1, .float .f64 d1, .int .i64 h1], .agg #[.int .i64 a2, .float .f64 c2, .float .f64 d2, .int .i64 h2]] w fun e w' => e = .returned (.int .i64 (cmpE ⟨a1, c1, d1, h1⟩ ⟨a2, c2, d2, h2⟩)) ∧ Below w.heap.size w w' := by
  go_enter Try.func30, Try.ntmps30
  go_wp2_with (first | (go_at_call 39; refine (cmpF_any _ _ _).mono ?_; rintro e wx ⟨rfl, rfl⟩) | (go_at_call 40; refine (cmpI_any _ _ _).mono ?_; rintro e wx ⟨rfl, rfl⟩) | (go_at_call 41; refine (cmpSign_any _ _ _).mono ?_; rintro e wx ⟨rfl, rfl⟩))
  all_goals (go_ret; refine ⟨?_, ((Below.refl _ _).alloc (Nat.le_refl _) _).alloc (by simp) _⟩)
  all_goals (refine congrArg (fun b => Ending.returned (.int .i64 b)) (?_ : _ = _); simp only [bne_iff_ne, ne_eq, bne_eq_false_iff_eq] at *)
  all_goals simp [cmpE, *]

set_option maxHeartbeats 400000 in
theorem makeEntry_any (a1 : Int) (c1 d1 : Nat) (h1 : Int) (w : World) :
    Calls Try.prog 10 #[.int .i64 a1, .float .f64 c1, .float .f64 d1, .int .i64 h1] w fun e w' => e = .returned (.agg #[.int .i64 a1, .float .f64 c1, .float .f64 d1, .int .i64 h1]) ∧ Below w.heap.size w w' := by
  go_enter Try.func10, Try.ntmps10
  go_wp2
  refine bodyPost_ret (v := .agg #[.int .i64 a1, .float .f64 c1, .float .f64 d1, .int .i64 h1]) (by simp [results, Try.results10, go_sem]) rfl ⟨rfl, ?_⟩
  exact (Below.refl _ _).alloc (Nat.le_refl _) _

set_option maxHeartbeats 400000 in
theorem entryFields_any (a1 : Int) (c1 d1 : Nat) (h1 : Int) (w : World) :
    Calls Try.prog 29 #[.agg #[.int .i64 a1, .float .f64 c1, .float .f64 d1, .int .i64 h1]] w fun e w' => e = .returned (.tuple #[.int .i64 a1, .float .f64 c1, .float .f64 d1, .int .i64 h1]) ∧ Below w.heap.size w w' := by
  go_enter Try.func29, Try.ntmps29
  go_wp2
  go_quiet (fail)
  go_wp2
  refine bodyPost_ret (v := .tuple #[.int .i64 a1, .float .f64 c1, .float .f64 d1, .int .i64 h1]) (by simp [results, Try.results29, go_sem]) rfl ⟨rfl, ?_⟩
  exact below_drewN ((Below.refl _ _).alloc (Nat.le_refl _) _) _

set_option maxHeartbeats 400000 in
theorem fromEntry_any (a1 : Int) (c1 d1 : Nat) (h1 : Int) (w : World) :
    Calls Try.prog 13 #[.agg #[.int .i64 a1, .float .f64 c1, .float .f64 d1, .int .i64 h1]] w fun e w' => e = .returned (.agg #[.int .i64 a1, .float .f64 c1, .float .f64 d1, .int .i64 h1]) ∧ Below w.heap.size w w' := by
  go_enter Try.func13, Try.ntmps13
  go_wp2_with (go_at_call 29; refine (entryFields_any _ _ _ _ _).mono ?_; rintro e wx ⟨rfl, hb⟩; obtain ⟨hc, hf⟩ := bcell hb)
  refine bodyPost_ret (v := .agg #[.int .i64 a1, .float .f64 c1, .float .f64 d1, .int .i64 h1]) (by simp [results, Try.results13, go_sem, hc]) rfl ⟨rfl, ?_⟩
  exact (((((((Below.refl _ _).alloc (Nat.le_refl _) _).alloc (by simp) _).trans (hb.mono (by simp; omega))).setCell (by show _ ≤ _ + 1; omega) _).setCell (by show _ ≤ _ + 1; omega) _).setCell (by show _ ≤ _ + 1; omega) _).setCell (by show _ ≤ _ + 1; omega) _
end Go.Proofs.Qxb6601457a
