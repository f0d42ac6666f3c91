import Derived.Test.Qxb6601655aRows
import Derived.Test.Qxb6601655aRowV
import Derived.WalkKit
import Derived.WalkSpells
import Derived.WalkLawsBesides
import Derived.BigQuiet
import Derived.Lib.QuietBelow
namespace Go.Proofs.Qxb6601655a
set_option linter.unusedSimpArgs false
set_option linter.unusedVariables false
open Go.RowKit

theorem makeLayout_any (a1 a2 a3 p : Option Addr) (n1 c1 n2 c2 n3 c3 : Nat) (w : World) :
    Calls Try.prog 22 #[.slice a1 n1 c1, .slice a2 n2 c2, .slice a3 n3 c3, .pointer p] w fun e w' => e = .returned (.pointer (some ⟨w.heap.size, 0, none⟩)) ∧ w' = w.alloc (.cells #[.slice a1 n1 c1, .slice a2 n2 c2, .slice a3 n3 c3, .pointer p] 73) := by
  go_enter Try.func22, Try.ntmps22
  go_wp2
  go_ret
  exact ⟨rfl, rfl⟩

theorem newLayout_nil (a1 a2 : Option Addr) (n1 c1 n2 c2 : Nat) (w : World) (b1 : (n1 : Int) ≤ 4194304) (h : n2 < 2 * n1) :
    Calls Try.prog 49 #[.slice a1 n1 c1, .slice a2 n2 c2] w fun e w' => e = .returned (.pointer none) ∧ w' = w := by
  go_enter Try.func49, Try.ntmps49
  go_wp2
  all_goals first | (exfalso; omega) | skip
  go_ret
  exact ⟨rfl, rfl⟩

theorem newLayout_new (a1 a2 : Option Addr) (n1 c1 n2 c2 : Nat) (w : World) (b1 : (n1 : Int) ≤ 4194304) (h : 2 * n1 ≤ n2) :
    Calls Try.prog 49 #[.slice a1 n1 c1, .slice a2 n2 c2] w fun e w' => e = .returned (.pointer (some ⟨w.heap.size, 0, none⟩)) ∧ w' = w.alloc (.cells #[.slice a1 n1 c1, .slice a2 n2 c2, .slice none 0 0, .pointer none] 73) := by
  go_enter Try.func49, Try.ntmps49
  go_wp2
  all_goals first | (exfalso; omega) | skip
  go_ret
  exact ⟨rfl, rfl⟩

set_option maxHeartbeats 400000 in
theorem makeValue_any (k n : Int) (t : ByteArray) (w : World) :
    Calls Try.prog 40 #[.int .u8 k, .int .i64 n, .string t] w fun e w' => e = .returned (.agg #[.int .u8 k, .int .i64 n, .string t]) ∧ Below w.heap.size w w' := by
  go_enter Try.func40, Try.ntmps40
  go_wp2
  refine bodyPost_ret (v := .agg #[.int .u8 k, .int .i64 n, .string t]) (by simp [results, Try.results40, go_sem]) rfl ⟨rfl, ?_⟩
  exact (Below.refl _ _).alloc (Nat.le_refl _) _

set_option maxHeartbeats 400000 in
theorem valueFields_any (k n : Int) (t : ByteArray) (w : World) :
    Calls Try.prog 39 #[.agg #[.int .u8 k, .int .i64 n, .string t]] w fun e w' => e = .returned (.tuple #[.int .u8 k, .int .i64 n, .string t]) ∧ Below w.heap.size w w' := by
  go_enter Try.func39, Try.ntmps39
  go_wp2
  go_quiet (fail)
  go_wp2
  refine bodyPost_ret (v := .tuple #[.int .u8 k, .int .i64 n, .string t]) (by simp [results, Try.results39, go_sem]) rfl ⟨rfl, ?_⟩
  exact below_drewN ((Below.refl _ _).alloc (Nat.le_refl _) _) _

set_option maxHeartbeats 400000 in
theorem layoutFields_any (b : Nat) (a1 a2 a3 p : Option Addr) (n1 c1 n2 c2 n3 c3 : Nat) (w : World) (L : w.heap[b]? = some (.cells #[.slice a1 n1 c1, .slice a2 n2 c2, .slice a3 n3 c3, .pointer p] 73 (0, 0))) :
    Calls Try.prog 26 #[.pointer (some ⟨b, 0, none⟩)] w fun e w' => e = .returned (.tuple #[.slice a1 n1 c1, .slice a2 n2 c2, .slice a3 n3 c3, .pointer p]) ∧ Below w.heap.size w w' := by
  have e0 : ∀ d, (w.drewN d).cell? ⟨b, 0, none⟩ = some (.slice a1 n1 c1) := fun d => by
    show w.cell? ⟨b, 0, none⟩ = _
    rw [cell_of_row w b 0 _ _ _ L]; rfl
  have e1 : ∀ d, (w.drewN d).cell? ⟨b, 1, none⟩ = some (.slice a2 n2 c2) := fun d => by
    show w.cell? ⟨b, 1, none⟩ = _
    rw [cell_of_row w b 1 _ _ _ L]; rfl
  have e2 : ∀ d, (w.drewN d).cell? ⟨b, 2, none⟩ = some (.slice a3 n3 c3) := fun d => by
    show w.cell? ⟨b, 2, none⟩ = _
    rw [cell_of_row w b 2 _ _ _ L]; rfl
  have e3 : ∀ d, (w.drewN d).cell? ⟨b, 3, none⟩ = some (.pointer p) := fun d => by
    show w.cell? ⟨b, 3, none⟩ = _
    rw [cell_of_row w b 3 _ _ _ L]; rfl
  clear L
  go_enter Try.func26, Try.ntmps26
  go_wp2
  go_quiet (fail)
  go_wp2
  refine bodyPost_ret (v := .tuple #[.slice a1 n1 c1, .slice a2 n2 c2, .slice a3 n3 c3, .pointer p]) (by simp [results, Try.results26, go_sem]) rfl ⟨rfl, ?_⟩
  exact below_drewN (Below.refl _ _) _
end Go.Proofs.Qxb6601655a
