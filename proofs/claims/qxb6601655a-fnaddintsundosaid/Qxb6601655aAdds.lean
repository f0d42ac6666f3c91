import Derived.Test.Qxb6601655aRows
import Derived.WalkKit
import Derived.WalkSpells
import Derived.WalkLawsBesides
import Derived.ProofKit
import Derived.Below
namespace Go.Proofs.Qxb6601655a
set_option linter.unusedSimpArgs false
set_option linter.unusedVariables false
open Go.RowKit

/-- the exact result of the operation -/
def exactly (a b : Int) (m : Bool) : Int := if m then a - b else a + b

/-- the side on which an exact result leaves int64 -/
def past (n : Int) : Int := if n < -9223372036854775808 then -1 else if 9223372036854775807 < n then 1 else 0

theorem wf64 {a : Int} (h : (Lit.int .i64 a).wf = true) : -9223372036854775808 ≤ a ∧ a ≤ 9223372036854775807 := by
  simp only [Lit.wf, IntKind.min, IntKind.max, IntKind.signed, IntKind.bits, Bool.and_eq_true, decide_eq_true_eq, if_true] at h
  omega

set_option maxHeartbeats 1000000 in
theorem addInts_any (a b : Int) (m : Bool) (wa : (Lit.int .i64 a).wf = true) (wb : (Lit.int .i64 b).wf = true) (w : World) :
    Calls Try.prog 33 #[.int .i64 a, .int .i64 b, .bool m] w fun e w' => e = .returned (.tuple #[.int .i64 (wrap64 (exactly a b m)), .int .i64 (past (exactly a b m))]) ∧ Grown w w' := by
  have ha := wf64 wa
  have hb := wf64 wb
  cases m
  all_goals
    go_enter Try.func33, Try.ntmps33
    go_wp2
    all_goals (refine bodyPost_ret (v := .tuple #[.int .i64 (wrap64 (exactly a b _)), .int .i64 (past (exactly a b _))]) ?_ rfl ⟨rfl, Grown.refl _⟩; simp [results, Try.results33, go_sem]; simp only [exactly, past, wrap64, Bool.false_eq_true, if_false, if_true, true_and, decide_eq_decide, beq_iff_eq, Bool.or_eq_true, not_or, decide_eq_true_eq] at *; repeat' split
               all_goals first | omega | trace_state)


theorem past_wf (n : Int) : (Lit.int .i64 (past n)).wf = true := by
  simp only [Lit.wf, IntKind.min, IntKind.max, IntKind.signed, IntKind.bits, past, Bool.and_eq_true, decide_eq_true_eq, if_true]
  repeat' split
  all_goals omega

set_option maxHeartbeats 1000000 in
theorem zzAddInts_any (a b : Int) (m : Bool) (wa : (Lit.int .i64 a).wf = true) (wb : (Lit.int .i64 b).wf = true) (w : World) :
    Calls Try.prog 10 #[.int .i64 a, .int .i64 b, .bool m] w fun e w' => e = .returned (.tuple #[.int .i64 (wrap64 (exactly a b m)), .int .i64 (past (exactly a b m))]) ∧ Grown w w' := by
  go_enter Try.func10, Try.ntmps10
  go_wp2_with (go_at_call 33; refine (addInts_any _ _ _ wa wb _).mono ?_; rintro e wx ⟨rfl, hg⟩)
  exact bodyPost_ret (v := .tuple #[.int .i64 (wrap64 (exactly a b m)), .int .i64 (past (exactly a b m))]) (by simp [results, Try.results10, go_sem]) rfl ⟨rfl, hg⟩

theorem grown_trans {a b c : World} (h : Grown a b) (g : Grown b c) : Grown a c :=
  ⟨World.keptBut_trans h.1 g.1, fun x => (g.2.1 x).trans (h.2.1 x), Nat.le_trans h.2.2 g.2.2⟩

theorem zzAddInts_out (a b : Int) (m : Bool) (wa : (Lit.int .i64 a).wf = true) (wb : (Lit.int .i64 b).wf = true) (w : World) :
    Calls Try.prog 10 #[.int .i64 a, .int .i64 b, .bool m] w fun e w' => ∃ n p, e = .returned (.tuple #[.int .i64 n, .int .i64 p]) ∧ (n = wrap64 (exactly a b m) ∧ p = past (exactly a b m)) ∧ (Lit.int .i64 n).wf = true ∧ Grown w w' :=
  (zzAddInts_any a b m wa wb w).mono fun e w' h => ⟨_, _, h.1, ⟨rfl, rfl⟩, wrap64_wf _, h.2⟩
end Go.Proofs.Qxb6601655a
