import Derived.Test.Qxb6601655aW5
namespace Go.Proofs.Qxb6601655a
set_option linter.unusedSimpArgs false
set_option linter.unusedVariables false
open Go.RowKit
attribute [local go_sem] Try.eq45 Try.eq46 Try.eq53 Try.ne45

/-- a bool was returned -/
def IsB (e : Ending) : Prop := ∃ r, e = .returned (.bool r)

set_option maxRecDepth 100000 in
set_option maxHeartbeats 1600000 in
theorem zzBytes_any (a0 a1 a2 a4 a5 : Option Addr) (n0 c0 n1 c1 n2 c2 n4 c4 n5 c5 b o : Nat) (hw : Bool) (l : List Vl) (w : World) (V : Vls w a1 n1 b o l)
    (m0 : n0 ≤ 9223372036854775807) (m1 : n1 ≤ 9223372036854775807) (m2 : n2 ≤ 9223372036854775807) (m4 : n4 ≤ 9223372036854775807) (m5 : n5 ≤ 9223372036854775807) :
    Calls Try.prog 19 #[.slice a0 n0 c0, .slice a1 n1 c1, .slice a2 n2 c2, .bool hw, .slice a4 n4 c4, .slice a5 n5 c5] w fun e w' => IsB e ∧ Below w.heap.size w w' := by
  have HV : Hid _ := V
  clear V
  have esc : ∀ r : Bool, IsB (Ending.returned (.bool r)) ∧ Below w.heap.size w w := fun r => ⟨⟨r, rfl⟩, Below.refl _ _⟩
  by_cases h0 : n0 ≤ 1048576
  case neg =>
    clear HV
    go_enter Try.func19, Try.ntmps19
    go_wp2
    all_goals first | (exfalso; omega) | skip
    go_ret
    exact esc _
  by_cases h1 : n0 + n1 ≤ 1048576
  case neg =>
    clear HV
    go_enter Try.func19, Try.ntmps19
    go_wp2
    all_goals first | (exfalso; omega) | skip
    all_goals (go_ret; exact esc _)
  go_enter Try.func19, Try.ntmps19
  go_wp2
  go_loop [13, 14] (fun t i => ∃ z k : Nat, t = .int .i64 z ∧ i = .int .i64 k ∧ k ≤ n1 ∧ (z : Int) ≤ 1048576) (fun _ i => n1 - (intOf i).toNat)
  case atStart => exact ⟨n0 + n1, 0, by go_num, rfl, Nat.zero_le _, by omega⟩
  case round =>
    obtain ⟨z, k, rfl, rfl, hk, hz⟩ := hrel
    by_cases hlt : k < n1
    · have hx := (HV.out.cell k hlt).c2
      obtain rfl := HV.out.ad (by omega)
      generalize vg l k = x at *
      by_cases h2 : x.tx.size ≤ 1048576
      · by_cases h3 : z + x.tx.size ≤ 1048576
        · go_wp2
          all_goals first | (exfalso; omega) | skip
          go_round
          case rel => exact ⟨z + x.tx.size, k + 1, by go_num, by go_num, by omega, by omega⟩
          case measure => simp [intOf]; omega
        · go_wp2
          all_goals first | (exfalso; omega) | skip
          go_ret
          exact esc _
      · go_wp2
        all_goals first | (exfalso; omega) | skip
        go_ret
        exact esc _
    · obtain rfl : k = n1 := by omega
      by_cases h2 : n2 ≤ 1048576
      case neg =>
        go_wp2
        all_goals first | (exfalso; omega) | skip
        go_ret
        exact esc _
      by_cases h3 : n4 ≤ 1048576
      case neg =>
        go_wp2
        all_goals first | (exfalso; omega) | skip
        all_goals (go_ret; exact esc _)
      by_cases h4 : n5 ≤ 1048576
      case neg =>
        go_wp2
        all_goals first | (exfalso; omega) | skip
        all_goals (go_ret; exact esc _)
      go_wp2
      all_goals (go_ret; exact esc _)
end Go.Proofs.Qxb6601655a
