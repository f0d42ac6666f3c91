import Derived.Test.Qxb6601655aRows
import Derived.Test.Qxb6601655aRowV
import Derived.WalkKit
import Derived.WalkSpells
import Derived.WalkLawsBesides
import Derived.BigQuiet
import Derived.Lib.QuietBelow
namespace Go.Proofs.Qxb6601655a
set_option linter.unusedSimpArgs false
set_option linter.unusedVariables false
open Go.RowKit

set_option maxRecDepth 100000 in
set_option maxHeartbeats 1600000 in
theorem contains_any (a : Option Addr) (n c b o : Nat) (zs : List Int) (x : Int) (w : World) (hn : (n : Int) ≤ 4194304) (I : Ints w a n b o zs) (A : Asc zs) :
    Calls Try.prog 29 #[.slice a n c, .int .i64 x] w fun e w' => e = .returned (.bool (decide (x ∈ zs))) ∧ w' = w := by
  have hlen := I.len
  have HS : Hid (Sch zs x 0 zs.length) := Sch.init zs x
  rw [hlen] at HS
  have HA : Hid _ := A
  have HI : Hid _ := I
  have HL : Hid _ := hlen
  obtain ⟨R, hR⟩ : ∃ R, R = decide (x ∈ zs) := ⟨_, rfl⟩
  rw [← hR]
  have HR : Hid _ := hR
  clear A I hlen hR
  go_enter Try.func29, Try.ntmps29
  go_wp2
  go_loop [5, 6] (fun i k => ∃ lo hi : Nat, i = .int .i64 lo ∧ k = .int .i64 hi ∧ hi ≤ n ∧ Hid (Sch zs x lo hi)) (fun i k => (intOf k).toNat - (intOf i).toNat)
  case atStart => exact ⟨0, n, rfl, rfl, Nat.le_refl _, HS⟩
  case round =>
    obtain ⟨lo, hi, rfl, rfl, hhn, hsch⟩ := hrel
    clear HS
    by_cases hlt : lo < hi
    · obtain ⟨q, hq⟩ : ∃ q, (hi - lo) / 2 = q := ⟨_, rfl⟩
      have hq1 : ((hi : Int) - (lo : Int)) / 2 = (q : Int) := by omega
      have hq2 : lo + q < hi := by omega
      have hq3 : ((lo : Int) + (q : Int)) < (n : Int) := by omega
      have hq4 : lo + q < n := by omega
      have hq5 : (0 : Int) ≤ (hi : Int) - (lo : Int) := by omega
      obtain ⟨m, hm⟩ : ∃ m, m = lo + q := ⟨_, rfl⟩
      have hm1 : (lo : Int) + (q : Int) = (m : Int) := by omega
      have hmn : m < n := by omega
      have hml : lo ≤ m := by omega
      have hmh : m < hi := by omega
      have hc := HI.out.cell m hmn
      obtain rfl := HI.out.ad (by omega)
      obtain ⟨y, hy⟩ : ∃ y, y = ig zs m := ⟨_, rfl⟩
      rw [← hy] at hc
      have HY : Hid _ := hy
      have hym : y ∈ zs := by rw [hy]; exact ig_mem (by rw [HL.out]; exact hmn)
      have HYM : Hid _ := hym
      clear hy hym hq hq2 hq3 hq4 hm
      by_cases h1 : y = x
      · subst h1
        have hR1 : R = true := by rw [HR.out]; simp [HYM.out]
        subst hR1
        go_wp2
        go_ret
        all_goals first | exact ⟨rfl, rfl⟩ | rfl
      · by_cases h2 : y < x
        · go_wp2
          go_round
          case rel => exact ⟨m + 1, hi, by go_num, rfl, hhn, hsch.out.up HA.out hml hmh (by rw [← HY.out]; exact h2)⟩
          case measure => simp [intOf]; omega
        · go_wp2
          go_round
          case rel => exact ⟨lo, m, rfl, rfl, by omega, hsch.out.down HA.out hml hmh (by rw [← HY.out]; omega)⟩
          case measure => simp [intOf]; omega
    · have hR1 : R = false := by rw [HR.out]; simp [hsch.out.none hlt]
      subst hR1
      go_wp2
      go_ret
      all_goals first | exact ⟨rfl, rfl⟩ | rfl

set_option maxRecDepth 100000 in
set_option maxHeartbeats 1600000 in
theorem valsBytes_any (a : Option Addr) (n c b o : Nat) (l : List Vl) (w : World) (hn : (n : Int) ≤ 1048576) (V : Vls w a n b o l) :
    Calls Try.prog 20 #[.slice a n c] w fun e w' => ∃ z : Nat, e = .returned (.int .i64 z) ∧ (z : Int) ≤ 67108864 ∧ w' = w := by
  have HV : Hid _ := V
  clear V
  go_enter Try.func20, Try.ntmps20
  go_wp2
  go_loop [3, 4] (fun t i => ∃ z k : Nat, t = .int .i64 z ∧ i = .int .i64 k ∧ k ≤ n ∧ (z : Int) ≤ 67108864) (fun _ i => n - (intOf i).toNat)
  case atStart => exact ⟨32 * n, 0, by go_num, rfl, Nat.zero_le _, by omega⟩
  case round =>
    obtain ⟨z, k, rfl, rfl, hk, hz⟩ := hrel
    by_cases hlt : k < n
    · have hx := (HV.out.cell k hlt).c2
      obtain rfl := HV.out.ad (by omega)
      generalize vg l k = x at *
      by_cases h1 : (z : Int) ≤ 1048576
      · by_cases h2 : x.tx.size ≤ 1048576
        · go_wp2
          all_goals first | (exfalso; omega) | skip
          go_round
          case rel => exact ⟨z + x.tx.size, k + 1, by go_num, by go_num, by omega, by omega⟩
          case measure => simp [intOf]; omega
        · go_wp2
          all_goals first | (exfalso; omega) | skip
          go_ret
          exact ⟨2097152, rfl, by omega, rfl⟩
      · go_wp2
        all_goals first | (exfalso; omega) | skip
        go_ret
        exact ⟨2097152, rfl, by omega, rfl⟩
    · obtain rfl : k = n := by omega
      go_wp2
      go_ret
      exact ⟨z, rfl, hz, rfl⟩
end Go.Proofs.Qxb6601655a
