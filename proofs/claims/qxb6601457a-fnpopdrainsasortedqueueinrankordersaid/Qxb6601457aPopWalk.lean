import Derived.Test.Qxb6601457aPopLeaf
import Derived.Test.Qxb6601457aSeq
import Derived.BigQuiet
namespace Go.Proofs.Qxb6601457a
set_option linter.unusedSimpArgs false
set_option linter.unusedVariables false
open Go.RowKit Go.Sort
attribute [local go_sem] run_store_float

theorem neNan (x : Nat) : (FloatKind.f64.format.order x x != some .eq) = isNan x := by
  have h := @nan_of_ne x
  unfold feq ford at h
  rw [bne, h, Bool.not_not]

set_option maxHeartbeats 1000000 in
theorem bytes7_any (a : Option Addr) (n c : Nat) (w : World) (hn : n ≤ 9223372036854775807) :
    Calls Try.prog 7 #[.slice a n c] w fun e w' => e = .returned (.bool (decide (n ≤ 1048576))) ∧ w' = w := by
  by_cases h : n ≤ 1048576
  · have e : decide (n ≤ 1048576) = true := by simp [h]
    rw [e]
    go_enter Try.func7, Try.ntmps7
    go_wp2
    all_goals first | (exfalso; omega) | (go_ret; exact ⟨rfl, rfl⟩)
  · have e : decide (n ≤ 1048576) = false := by simp [h]
    rw [e]
    go_enter Try.func7, Try.ntmps7
    go_wp2
    all_goals first | (exfalso; omega) | (go_ret; exact ⟨rfl, rfl⟩)

set_option maxHeartbeats 1000000 in
theorem bytes15_any (a : Option Addr) (n c : Nat) (w : World) (hn : n ≤ 9223372036854775807) :
    Calls Try.prog 15 #[.slice a n c] w fun e w' => e = .returned (.bool (decide (n ≤ 1048576))) ∧ w' = w := by
  by_cases h : n ≤ 1048576
  · have e : decide (n ≤ 1048576) = true := by simp [h]
    rw [e]
    go_enter Try.func15, Try.ntmps15
    go_wp2
    all_goals first | (exfalso; omega) | (go_ret; exact ⟨rfl, rfl⟩)
  · have e : decide (n ≤ 1048576) = false := by simp [h]
    rw [e]
    go_enter Try.func15, Try.ntmps15
    go_wp2
    all_goals first | (exfalso; omega) | (go_ret; exact ⟨rfl, rfl⟩)

set_option maxRecDepth 100000 in
set_option maxHeartbeats 1600000 in
theorem hasNan_any (a : Option Addr) (n c b o : Nat) (l : List Ent) (w : World) (hn : n ≤ 32768) (hE : Ents w a n b o l) :
    Calls Try.prog 8 #[.slice a n c] w fun e w' => ∃ r, e = .returned (.bool r) ∧ (r = false → ∀ j, j < n → nn (eg l j)) ∧ Below w.heap.size w w' := by
  go_enter Try.func8, Try.ntmps8
  go_wp2
  go_loopw [3] (fun i wr => ∃ k : Nat, k ≤ n ∧ i = .int .i64 k ∧ (∀ j, j < k → nn (eg l j)) ∧ Below w.heap.size w wr) (fun i _ => n - (intOf i).toNat)
  case atStart => exact ⟨0, Nat.zero_le _, rfl, fun j hj => by omega, Below.refl _ _⟩
  case round =>
    obtain ⟨k, hk, rfl, hall, hbel⟩ := hrel
    by_cases hlt : k < n
    · have hx := (hE.below hbel).cell k hlt
      obtain rfl := hE.ad (by omega)
      have hnext : nn (eg l k) → ∀ j, j < k + 1 → nn (eg l j) := by
        intro h j hj
        by_cases e : j = k
        · subst e; exact h
        · exact hall j (by omega)
      have HN : Hid _ := hnext
      obtain ⟨x, hxx⟩ : ∃ x, x = eg l k := ⟨_, rfl⟩
      rw [← hxx] at hx HN
      clear hall hnext hE hxx
      have e1 : ∀ d, (wr.drewN d).cell? ⟨b, o + k * 4 + 1, none⟩ = some (.float .f64 x.co) := fun d => hx.c1
      have e2 : ∀ d, (wr.drewN d).cell? ⟨b, o + k * 4 + 2, none⟩ = some (.float .f64 x.de) := fun d => hx.c2
      clear hx
      cases h1 : isNan x.co with
      | true =>
        have q1 := neNan x.co
        rw [h1] at q1
        go_wp2_with fail
        go_quiet (fail)
        go_wp2
        go_ret
        exact ⟨true, rfl, fun h => by simp at h, below_drewN hbel _⟩
      | false =>
        have q1 := neNan x.co
        rw [h1] at q1
        cases h2 : isNan x.de with
        | true =>
          have q2 := neNan x.de
          rw [h2] at q2
          go_wp2_with fail
          go_quiet (fail)
          go_wp2
          go_ret
          exact ⟨true, rfl, fun h => by simp at h, below_drewN hbel _⟩
        | false =>
          have q2 := neNan x.de
          rw [h2] at q2
          go_wp2_with fail
          go_quiet (fail)
          go_wp2
          go_roundw
          case rel => exact ⟨k + 1, by omega, by go_num, HN.out ⟨h1, h2⟩, below_drewN hbel _⟩
          case measure => simp [intOf]; omega
    · obtain rfl : k = n := by omega
      have HA : Hid _ := hall
      clear hall
      go_wp2
      go_ret
      exact ⟨false, rfl, fun _ => HA.out, hbel⟩
end Go.Proofs.Qxb6601457a
