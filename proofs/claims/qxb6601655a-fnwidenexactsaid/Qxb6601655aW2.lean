import Derived.Test.Qxb6601655aRows
import Derived.Test.Qxb6601655aRowV
import Derived.WalkKit
import Derived.WalkSpells
import Derived.WalkLawsBesides
import Derived.BigQuiet
import Derived.Lib.QuietBelow
namespace Go.Proofs.Qxb6601655a
set_option linter.unusedSimpArgs false
set_option linter.unusedVariables false
open Go.RowKit

set_option maxRecDepth 100000 in
set_option maxHeartbeats 1600000 in
theorem ascending_any (a : Option Addr) (n c b o : Nat) (zs : List Int) (w : World) (hn : (n : Int) ≤ 4194304) (I : Ints w a n b o zs) :
    Calls Try.prog 21 #[.slice a n c] w fun e w' => ∃ r, e = .returned (.bool r) ∧ (r = true ↔ Asc zs) ∧ Below w.heap.size w w' := by
  go_enter Try.func21, Try.ntmps21
  go_wp2
  go_loopw [3] (fun i wr => ∃ k : Nat, 1 ≤ k ∧ (k ≤ n ∨ k = 1) ∧ i = .int .i64 k ∧ (∀ j, 1 ≤ j → j < k → ig zs (j - 1) < ig zs j) ∧ Below w.heap.size w wr) (fun i _ => n - (intOf i).toNat)
  case atStart => exact ⟨1, Nat.le_refl _, .inr rfl, rfl, fun j h1 h2 => by omega, Below.refl _ _⟩
  case round =>
    obtain ⟨k, hk1, hk, rfl, hall, hbel⟩ := hrel
    have hlen := I.len
    by_cases hlt : k < n
    · obtain ⟨m, rfl⟩ : ∃ m, k = m + 1 := ⟨k - 1, by omega⟩
      have J := I.below hbel
      obtain rfl := I.ad (by omega)
      have hx := J.cell m (by omega)
      have hy := J.cell (m + 1) hlt
      have HA : Hid _ := hall
      obtain ⟨x, hxx⟩ : ∃ x, x = ig zs m := ⟨_, rfl⟩
      obtain ⟨y, hyy⟩ : ∃ y, y = ig zs (m + 1) := ⟨_, rfl⟩
      rw [← hxx] at hx
      rw [← hyy] at hy
      have e1 : ∀ d, (wr.drewN d).cell? ⟨b, o + m, none⟩ = some (.int .i64 x) := fun d => hx
      have e2 : ∀ d, (wr.drewN d).cell? ⟨b, o + (m + 1), none⟩ = some (.int .i64 y) := fun d => hy
      have HX : Hid _ := hxx
      have HY : Hid _ := hyy
      have HI : Hid _ := I
      have HL : Hid _ := hlen
      have i1 : ((m + 1 : Nat) : Int) - 1 = (m : Int) := by omega
      have i2 : m < n := by omega
      have i3 : m + 1 < n := hlt
      clear hall hx hy hxx hyy J I hlen
      by_cases hc : y ≤ x
      · go_wp2_with fail
        go_quiet (fail)
        go_wp2
        go_ret
        refine ⟨false, rfl, ⟨fun h => (by cases h), fun h => ?_⟩, below_drewN hbel _⟩
        have := h (m + 1) (by omega) (by rw [HL.out]; exact hlt)
        rw [Nat.add_sub_cancel, ← HX.out, ← HY.out] at this
        omega
      · have hc' : x < y := by omega
        go_wp2_with fail
        go_quiet (fail)
        go_wp2
        go_roundw
        case rel =>
          refine ⟨m + 2, by omega, .inl (by omega), by go_num, fun j h1 h2 => ?_, below_drewN hbel _⟩
          by_cases e : j = m + 1
          · subst e
            rw [Nat.add_sub_cancel, ← HX.out, ← HY.out]; exact hc'
          · exact HA.out j h1 (by omega)
        case measure => simp [intOf]; omega
    · have HA : Hid _ := hall
      clear hall
      go_wp2
      go_ret
      exact ⟨true, rfl, ⟨fun _ i h1 h2 => HA.out i h1 (by omega), fun _ => rfl⟩, hbel⟩

theorem same_lists {xs ys : List Int} {n : Nat} (hx : xs.length = n) (hy : ys.length = n) (h : ∀ j, j < n → ig xs j = ig ys j) : xs = ys := by
  apply List.ext_getElem?
  intro j
  by_cases hj : j < n
  · rw [ig_get (by omega), ig_get (by omega), h j hj]
  · rw [List.getElem?_eq_none (by omega), List.getElem?_eq_none (by omega)]

set_option maxRecDepth 100000 in
set_option maxHeartbeats 1600000 in
theorem sameInts_any (a : Option Addr) (n c b o : Nat) (xs : List Int) (a' : Option Addr) (n' c' b' o' : Nat) (ys : List Int) (w : World) (hn : (n : Int) ≤ 4194304) (hn' : (n' : Int) ≤ 4194304) (I : Ints w a n b o xs) (I' : Ints w a' n' b' o' ys) :
    Calls Try.prog 27 #[.slice a n c, .slice a' n' c'] w fun e w' => ∃ r, e = .returned (.bool r) ∧ (r = true ↔ xs = ys) ∧ Below w.heap.size w w' := by
  have hlen := I.len
  have hlen' := I'.len
  by_cases hnn : n = n'
  · subst hnn
    go_enter Try.func27, Try.ntmps27
    go_wp2
    go_loopw [5] (fun i wr => ∃ k : Nat, k ≤ n ∧ i = .int .i64 k ∧ (∀ j, j < k → ig xs j = ig ys j) ∧ Below w.heap.size w wr) (fun i _ => n - (intOf i).toNat)
    case atStart => exact ⟨0, Nat.zero_le _, rfl, fun j h2 => by omega, Below.refl _ _⟩
    case round =>
      obtain ⟨k, hk, rfl, hall, hbel⟩ := hrel
      by_cases hlt : k < n
      · have hx := (I.below hbel).cell k hlt
        have hy := (I'.below hbel).cell k hlt
        obtain rfl := I.ad (by omega)
        obtain rfl := I'.ad (by omega)
        have HA : Hid _ := hall
        obtain ⟨x, hxx⟩ : ∃ x, x = ig xs k := ⟨_, rfl⟩
        obtain ⟨y, hyy⟩ : ∃ y, y = ig ys k := ⟨_, rfl⟩
        rw [← hxx] at hx
        rw [← hyy] at hy
        have e1 : ∀ d, (wr.drewN d).cell? ⟨b, o + k, none⟩ = some (.int .i64 x) := fun d => hx
        have e2 : ∀ d, (wr.drewN d).cell? ⟨b', o' + k, none⟩ = some (.int .i64 y) := fun d => hy
        have HX : Hid _ := hxx
        have HY : Hid _ := hyy
        have HL : Hid _ := hlen
        have HL' : Hid _ := hlen'
        clear hall hx hy hxx hyy I I' hlen hlen'
        by_cases hc : x = y
        · subst hc
          go_wp2_with fail
          go_quiet (fail)
          go_wp2
          go_roundw
          case rel =>
            refine ⟨k + 1, by omega, by go_num, fun j h2 => ?_, below_drewN hbel _⟩
            by_cases e : j = k
            · subst e
              rw [← HX.out, ← HY.out]
            · exact HA.out j (by omega)
          case measure => simp [intOf]; omega
        · go_wp2_with fail
          go_quiet (fail)
          go_wp2
          go_ret
          refine ⟨false, rfl, ⟨fun h => (by cases h), fun h => ?_⟩, below_drewN hbel _⟩
          exfalso
          apply hc
          rw [HX.out, HY.out, h]
      · obtain rfl : k = n := by omega
        have HA : Hid _ := hall
        have HL : Hid _ := hlen
        have HL' : Hid _ := hlen'
        clear hall hlen hlen'
        go_wp2
        go_ret
        exact ⟨true, rfl, ⟨fun _ => same_lists HL.out HL'.out HA.out, fun _ => rfl⟩, hbel⟩
  · have HL : Hid _ := hlen
    have HL' : Hid _ := hlen'
    clear hlen hlen' I I'
    go_enter Try.func27, Try.ntmps27
    go_wp2
    go_ret
    refine ⟨false, rfl, ⟨fun h => (by cases h), fun h => ?_⟩, Below.refl _ _⟩
    exact absurd (by rw [← HL.out, ← HL'.out, h]) hnn

set_option maxRecDepth 100000 in
set_option maxHeartbeats 1600000 in
theorem sameColumns_any (a : Option Addr) (n c b o : Nat) (xs : List Int) (a' : Option Addr) (n' c' b' o' : Nat) (ys : List Int) (w : World) (hn : (n : Int) ≤ 4194304) (hn' : (n' : Int) ≤ 4194304) (I : Ints w a n b o xs) (I' : Ints w a' n' b' o' ys) :
    Calls Try.prog 48 #[.slice a n c, .slice a' n' c'] w fun e w' => ∃ r, e = .returned (.bool r) ∧ (r = true ↔ xs = ys) ∧ w' = w := by
  have hlen := I.len
  have hlen' := I'.len
  by_cases hnn : n = n'
  · subst hnn
    go_enter Try.func48, Try.ntmps48
    go_wp2
    go_loop [14] (fun i => ∃ k : Nat, k ≤ n ∧ i = .int .i64 k ∧ (∀ j, j < k → ig xs j = ig ys j)) (fun i => n - (intOf i).toNat)
    case atStart => exact ⟨0, Nat.zero_le _, rfl, fun j h2 => by omega⟩
    case round =>
      obtain ⟨k, hk, rfl, hall⟩ := hrel
      by_cases hlt : k < n
      · have hx := I.cell k hlt
        have hy := I'.cell k hlt
        obtain rfl := I.ad (by omega)
        obtain rfl := I'.ad (by omega)
        have HA : Hid _ := hall
        obtain ⟨x, hxx⟩ : ∃ x, x = ig xs k := ⟨_, rfl⟩
        obtain ⟨y, hyy⟩ : ∃ y, y = ig ys k := ⟨_, rfl⟩
        rw [← hxx] at hx
        rw [← hyy] at hy
        have HX : Hid _ := hxx
        have HY : Hid _ := hyy
        clear hall hxx hyy I I' hlen hlen'
        by_cases hc : y = x
        · subst hc
          go_wp2
          go_round
          case rel =>
            refine ⟨k + 1, by omega, by go_num, fun j h2 => ?_⟩
            by_cases e : j = k
            · subst e
              rw [← HX.out, ← HY.out]
            · exact HA.out j (by omega)
          case measure => simp [intOf]; omega
        · go_wp2
          go_ret
          refine .inl ⟨rfl, fun h => ?_, rfl⟩
          apply hc
          rw [HX.out, HY.out, h]
      · obtain rfl : k = n := by omega
        have HA : Hid _ := hall
        have HL : Hid _ := hlen
        have HL' : Hid _ := hlen'
        clear hall hlen hlen'
        go_wp2
        go_ret
        exact .inr ⟨rfl, same_lists HL.out HL'.out HA.out, rfl⟩
  · have HL : Hid _ := hlen
    have HL' : Hid _ := hlen'
    clear hlen hlen' I I'
    go_enter Try.func48, Try.ntmps48
    go_wp2
    go_ret
    refine ⟨false, rfl, ⟨fun h => (by cases h), fun h => ?_⟩, rfl⟩
    exact absurd (by rw [← HL.out, ← HL'.out, h]) hnn
end Go.Proofs.Qxb6601655a
