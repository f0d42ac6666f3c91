/-
  '==' with nil, of slices; '==' of pointers to layouts.
-/
import Derived.Test.Qxb6601655aRows
import Derived.Test.Qxb6601655aRowV
import Derived.WalkKit
import Derived.WalkSpells
import Derived.LaidEqlPtr
import Derived.Lib.SliceRun
namespace Go.Proofs.Qxb6601655a
set_option linter.unusedSimpArgs false
set_option linter.unusedVariables false
open Go.RowKit

theorem Try.eq45 (w : World) (a : Option Addr) (n c : Nat) : (binOp .eql 45 (.slice a n c) (.slice none 0 0)).run Try.prog w = .ok (.bool a.isNone) w := Lib.run_eql_slice_nil w 45 3 a n c 0 0 Try.underlying45
theorem Try.eq46 (w : World) (a : Option Addr) (n c : Nat) : (binOp .eql 46 (.slice a n c) (.slice none 0 0)).run Try.prog w = .ok (.bool a.isNone) w := Lib.run_eql_slice_nil w 46 71 a n c 0 0 Try.underlying46
theorem Try.eq53 (w : World) (a : Option Addr) (n c : Nat) : (binOp .eql 53 (.slice a n c) (.slice none 0 0)).run Try.prog w = .ok (.bool a.isNone) w := Lib.run_eql_slice_nil w 53 41 a n c 0 0 Try.underlying53
theorem Try.ne45 (w : World) (a : Option Addr) (n c : Nat) : (binOp .neq 45 (.slice a n c) (.slice none 0 0)).run Try.prog w = .ok (.bool (!a.isNone)) w := run_neq_slice_nil_any w 45 3 a n c 0 0 Try.underlying45

theorem Try.info73 : (Try.prog.info? 73).map (fun i => i.size) = some 4 := by kernel_rfl

theorem Try.same50 (w : World) (p : Option Addr) : (Op.equal 50 (.pointer p) (.pointer p)).run Try.prog w = .ok true w := by
  obtain ⟨i, hi, hs⟩ : ∃ i, Try.prog.info? 73 = some i ∧ i.size = 4 := by
    have := Try.info73
    cases hi : Try.prog.info? 73 with
    | none => rw [hi] at this; cases this
    | some i => rw [hi] at this; exact ⟨i, rfl, by simpa using this⟩
  cases p with
  | none => 
    have h : ∀ d : Nat, (Op.equalIn (d + 1) 50 (.pointer none) (.pointer none)).run Try.prog w = .ok true w := fun d => by
      simp [Op.equalIn, run_underlying Try.underlying50]
    simp [Op.equal, Op.maxDepth, h 9999]
  | some a =>
    have h : ∀ d : Nat, (Op.equalIn (d + 1) 50 (.pointer (some a)) (.pointer (some a))).run Try.prog w = .ok true w := fun d => by
      simp [Op.equalIn, run_underlying Try.underlying50, sizeOf, typeInfo, hi, run_sameAddr_same]
    simp [Op.equal, Op.maxDepth, h 9999]

theorem Try.eq50_same (w : World) (p : Option Addr) : (binOp .eql 50 (.pointer p) (.pointer p)).run Try.prog w = .ok (.bool true) w := by
  simp only [binOp]
  simp [Try.same50]
theorem Try.ne50_same (w : World) (p : Option Addr) : (binOp .neq 50 (.pointer p) (.pointer p)).run Try.prog w = .ok (.bool false) w := by
  simp only [binOp]
  simp [Try.same50]

theorem Try.eq50_other {w : World} {g b : Nat} {ca cb : Array Value} {ta tb : TypeId} (hne : g ≠ b) (ha : w.heap[g]? = some (.cells ca ta (0, 0))) (hb : w.heap[b]? = some (.cells cb tb (0, 0))) :
    (binOp .eql 50 (.pointer (some ⟨g, 0, none⟩)) (.pointer (some ⟨b, 0, none⟩))).run Try.prog w = .ok (.bool false) w := by
  obtain ⟨i, hi, hs⟩ : ∃ i, Try.prog.info? 73 = some i ∧ i.size = 4 := by
    have := Try.info73
    cases hi : Try.prog.info? 73 with
    | none => rw [hi] at this; cases this
    | some i => rw [hi] at this; exact ⟨i, rfl, by simpa using this⟩
  exact run_eql_ptr_other w Try.underlying50 hi (by omega) (by simp [hne]) ha hb
end Go.Proofs.Qxb6601655a
