import Derived.Test.Qxb6601457aRows
import Derived.Test.Qxb6601457aPlain
import Derived.Test.Qxb6601457aFloat
import Derived.WalkKit
import Derived.WalkSpells
import Derived.WalkLawsBesides
import Derived.BigQuiet
import Derived.Lib.QuietBelow
namespace Go.Proofs.Qxb6601457a
set_option linter.unusedSimpArgs false
set_option linter.unusedVariables false
open Go.RowKit

theorem run_store_float (P : Program) (w : World) (a : Addr) (m : Mode) (k : FloatKind) (n : Nat) : (store a (.float k n) m).run P w = stored P w a (.float k n) m := run_store P w a _ m rfl
attribute [local go_sem] run_store_float

theorem bcell {W w1 : World} (hb : Below W.heap.size W w1) : (∀ b o, b < W.heap.size → w1.cell? ⟨b, o, none⟩ = W.cell? ⟨b, o, none⟩) ∧ (∀ b o, b < W.heap.size → w1.frozen? ⟨b, o, none⟩ = W.frozen? ⟨b, o, none⟩) :=
  ⟨fun b o h => hb.cell (p := ⟨b, o, none⟩) h, fun b o h => hb.frozen (p := ⟨b, o, none⟩) h⟩

set_option maxHeartbeats 400000 in
theorem makeLabel_any (w1 l1 d1 : Nat) (h1 s1 p1 : Int) (w : World) :
    Calls Try.prog 31 #[.float .f64 w1, .float .f64 l1, .float .f64 d1, .int .i64 h1, .int .i64 s1, .int .i64 p1] w fun e w' => e = .returned (.agg #[.float .f64 w1, .float .f64 l1, .float .f64 d1, .int .i64 h1, .int .i64 s1, .int .i64 p1]) ∧ Below w.heap.size w w' := by
  go_enter Try.func31, Try.ntmps31
  go_wp2
  refine bodyPost_ret (v := .agg #[.float .f64 w1, .float .f64 l1, .float .f64 d1, .int .i64 h1, .int .i64 s1, .int .i64 p1]) (by simp [results, Try.results31, go_sem]) rfl ⟨rfl, ?_⟩
  exact (Below.refl _ _).alloc (Nat.le_refl _) _

set_option maxHeartbeats 400000 in
theorem asGood_any (w1 l1 d1 w2 l2 d2 : Nat) (h1 s1 p1 h2 s2 p2 : Int) (w : World) :
    Calls Try.prog 33 #[.agg #[.float .f64 w1, .float .f64 l1, .float .f64 d1, .int .i64 h1, .int .i64 s1, .int .i64 p1], .agg #[.float .f64 w2, .float .f64 l2, .float .f64 d2, .int .i64 h2, .int .i64 s2, .int .i64 p2]] w fun e w' => e = .returned (.bool (asGoodB ⟨w1, l1, d1, h1, s1, p1⟩ ⟨w2, l2, d2, h2, s2, p2⟩)) ∧ Below w.heap.size w w' := by
  go_enter Try.func33, Try.ntmps33
  go_wp2
  all_goals (go_ret; exact ⟨by simp [asGoodB, flt, feq, fle, ford, *], ((Below.refl _ _).alloc (Nat.le_refl _) _).alloc (by simp) _⟩)

theorem Below.setCells6 {B : Nat} {a w : World} (h : Below B a w) {b : Nat} (hp : B ≤ b) (v0 v1 v2 v3 v4 v5 : Value) : Below B a ((((((w.setCell ⟨b, 0, none⟩ v0).setCell ⟨b, 1, none⟩ v1).setCell ⟨b, 2, none⟩ v2).setCell ⟨b, 3, none⟩ v3).setCell ⟨b, 4, none⟩ v4).setCell ⟨b, 5, none⟩ v5) :=
  (((((h.setCell hp _).setCell hp _).setCell hp _).setCell hp _).setCell hp _).setCell hp _

set_option maxHeartbeats 400000 in
theorem toLabel_any (w1 l1 d1 : Nat) (h1 s1 p1 : Int) (w : World) :
    Calls Try.prog 18 #[.agg #[.float .f64 w1, .float .f64 l1, .float .f64 d1, .int .i64 h1, .int .i64 s1, .int .i64 p1]] w fun e w' => e = .returned (.agg #[.float .f64 w1, .float .f64 l1, .float .f64 d1, .int .i64 h1, .int .i64 s1, .int .i64 p1]) ∧ Below w.heap.size w w' := by
  go_enter Try.func18, Try.ntmps18
  go_wp2_with (go_at_call 31; refine (makeLabel_any _ _ _ _ _ _ _).mono ?_; rintro e wx ⟨rfl, hb⟩; obtain ⟨hc, hf⟩ := bcell hb)
  refine bodyPost_ret (v := .agg #[.float .f64 w1, .float .f64 l1, .float .f64 d1, .int .i64 h1, .int .i64 s1, .int .i64 p1]) (by simp [results, Try.results18, go_sem, hc]) rfl ⟨rfl, ?_⟩
  exact Below.setCells6 ((((Below.refl _ _).alloc (Nat.le_refl _) _).alloc (by simp) _).trans (hb.mono (by simp; omega))) (by omega) _ _ _ _ _ _

set_option maxHeartbeats 400000 in
theorem labelFields_any (w1 l1 d1 : Nat) (h1 s1 p1 : Int) (w : World) :
    Calls Try.prog 35 #[.agg #[.float .f64 w1, .float .f64 l1, .float .f64 d1, .int .i64 h1, .int .i64 s1, .int .i64 p1]] w fun e w' => e = .returned (.tuple #[.float .f64 w1, .float .f64 l1, .float .f64 d1, .int .i64 h1, .int .i64 s1, .int .i64 p1]) ∧ Below w.heap.size w w' := by
  go_enter Try.func35, Try.ntmps35
  go_wp2
  go_quiet (fail)
  go_wp2
  refine bodyPost_ret (v := .tuple #[.float .f64 w1, .float .f64 l1, .float .f64 d1, .int .i64 h1, .int .i64 s1, .int .i64 p1]) (by simp [results, Try.results35, go_sem]) rfl ⟨rfl, ?_⟩
  exact below_drewN ((Below.refl _ _).alloc (Nat.le_refl _) _) _

set_option maxHeartbeats 400000 in
theorem fromLabel_any (w1 l1 d1 : Nat) (h1 s1 p1 : Int) (w : World) :
    Calls Try.prog 25 #[.agg #[.float .f64 w1, .float .f64 l1, .float .f64 d1, .int .i64 h1, .int .i64 s1, .int .i64 p1]] w fun e w' => e = .returned (.agg #[.float .f64 w1, .float .f64 l1, .float .f64 d1, .int .i64 h1, .int .i64 s1, .int .i64 p1]) ∧ Below w.heap.size w w' := by
  go_enter Try.func25, Try.ntmps25
  go_wp2_with (go_at_call 35; refine (labelFields_any _ _ _ _ _ _ _).mono ?_; rintro e wx ⟨rfl, hb⟩; obtain ⟨hc, hf⟩ := bcell hb)
  refine bodyPost_ret (v := .agg #[.float .f64 w1, .float .f64 l1, .float .f64 d1, .int .i64 h1, .int .i64 s1, .int .i64 p1]) (by simp [results, Try.results25, go_sem, hc]) rfl ⟨rfl, ?_⟩
  exact Below.setCells6 ((((Below.refl _ _).alloc (Nat.le_refl _) _).alloc (by simp) _).trans (hb.mono (by simp; omega))) (by omega) _ _ _ _ _ _

set_option maxHeartbeats 400000 in
theorem zzAsGood_any (w1 l1 d1 w2 l2 d2 : Nat) (h1 s1 p1 h2 s2 p2 : Int) (w : World) :
    Calls Try.prog 21 #[.agg #[.float .f64 w1, .float .f64 l1, .float .f64 d1, .int .i64 h1, .int .i64 s1, .int .i64 p1], .agg #[.float .f64 w2, .float .f64 l2, .float .f64 d2, .int .i64 h2, .int .i64 s2, .int .i64 p2]] w fun e w' => e = .returned (.bool (asGoodB ⟨w1, l1, d1, h1, s1, p1⟩ ⟨w2, l2, d2, h2, s2, p2⟩)) ∧ Below w.heap.size w w' := by
  go_enter Try.func21, Try.ntmps21
  go_wp2_with (go_at_call 33; refine (asGood_any _ _ _ _ _ _ _ _ _ _ _ _ _).mono ?_; rintro e wx ⟨rfl, hb⟩)
  go_ret
  exact ⟨rfl, ((((Below.refl _ _).alloc (Nat.le_refl _) _).alloc (by simp) _).trans (hb.mono (by simp; omega)))⟩

theorem waysSteps_any (b : Nat) (n : Int) (w : World) (h : w.cell? ⟨b, 1, none⟩ = some (.int .i64 n)) :
    Calls Try.prog 22 #[.pointer (some ⟨b, 0, none⟩)] w fun e w' => e = .returned (.int .i64 n) ∧ w' = w := by
  go_enter Try.func22, Try.ntmps22
  go_wp2
  go_ret
  exact ⟨rfl, rfl⟩

theorem waysLabels_any (b : Nat) (ao : Option Addr) (l c : Nat) (w : World) (h : w.cell? ⟨b, 0, none⟩ = some (.slice ao l c)) :
    Calls Try.prog 23 #[.pointer (some ⟨b, 0, none⟩)] w fun e w' => e = .returned (.slice ao l c) ∧ w' = w := by
  go_enter Try.func23, Try.ntmps23
  go_wp2
  go_ret
  exact ⟨rfl, rfl⟩

theorem makeWays_any (ao : Option Addr) (l c : Nat) (n : Int) (w : World) :
    Calls Try.prog 19 #[.slice ao l c, .int .i64 n] w fun e w' => e = .returned (.pointer (some ⟨w.heap.size, 0, none⟩)) ∧ w' = w.alloc (.cells #[.slice ao l c, .int .i64 n] 64) := by
  go_enter Try.func19, Try.ntmps19
  go_wp2
  go_ret
  exact ⟨rfl, rfl⟩

theorem negZero_any (x : Nat) (w : World) :
    Calls Try.prog 38 #[.float .f64 x] w fun e w' => e = .returned (.bool (negz x)) ∧ w' = w := by
  by_cases h : feq x 0 = true
  · obtain ⟨r, hr, hn⟩ := one_quo h
    have hq : ∀ w : World, (binOp .quo 25 (.float .f64 4607182418800017408) (.float .f64 x)).run Try.prog w = .ok (.float .f64 r) w := fun w => run_float_arith w _ _ _ _ _ _ hr
    have ho : FloatKind.f64.format.order x 0 = some .eq := by simpa [feq, ford] using h
    have hz : negz x = flt r 0 := by rw [hn]; simp [negz, h]
    clear hr hn
    go_enter Try.func38, Try.ntmps38
    go_wp2
    go_ret
    exact ⟨by rw [hz]; rfl, rfl⟩
  · have ho : (FloatKind.f64.format.order x 0 == some .eq) = false := by simpa [feq, ford] using h
    go_enter Try.func38, Try.ntmps38
    go_wp2
    go_ret
    exact ⟨by simp [negz, h], rfl⟩

theorem sameFN_refl (x : Nat) (w : World) :
    Calls Try.prog 34 #[.float .f64 x, .float .f64 x] w fun e w' => e = .returned (.bool true) ∧ w' = w := by
  by_cases h : FloatKind.f64.format.order x x = some .eq
  · go_enter Try.func34, Try.ntmps34
    go_wp2_with (go_at_call 38; refine (negZero_any _ _).mono ?_; rintro e wx ⟨rfl, rfl⟩)
    go_ret
    exact ⟨by simp, rfl⟩
  · have ho : (FloatKind.f64.format.order x x != some .eq) = true := by simpa using h
    go_enter Try.func34, Try.ntmps34
    go_wp2
    go_ret
    exact ⟨by simp [ho], rfl⟩

set_option maxHeartbeats 1000000 in
theorem sameLabel_refl (w1 l1 d1 : Nat) (h1 s1 p1 : Int) (w : World) :
    Calls Try.prog 24 #[.agg #[.float .f64 w1, .float .f64 l1, .float .f64 d1, .int .i64 h1, .int .i64 s1, .int .i64 p1], .agg #[.float .f64 w1, .float .f64 l1, .float .f64 d1, .int .i64 h1, .int .i64 s1, .int .i64 p1]] w fun e w' => e = .returned (.bool true) ∧ Below w.heap.size w w' := by
  go_enter Try.func24, Try.ntmps24
  go_wp2_with (go_at_call 34; refine (sameFN_refl _ _).mono ?_; rintro e wx ⟨rfl, rfl⟩)
  go_ret
  exact ⟨by simp, ((Below.refl _ _).alloc (Nat.le_refl _) _).alloc (by simp) _⟩

end Go.Proofs.Qxb6601457a
