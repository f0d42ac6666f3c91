import Derived.Test.Qxb6601655aW4
import Derived.Deep.RegionHeld3
namespace Go.Proofs.Qxb6601655a
set_option linter.unusedSimpArgs false
set_option linter.unusedVariables false
open Go.RowKit
attribute [local go_sem] Try.eq45 Try.eq46 Try.eq53 Try.ne45


/-- what the filling keeps -/
structure FillV (w wr : World) (n g k : Nat) (vs l : List Vl) : Prop where
  row : RowV wr g 41 l
  len : l.length = n
  same : ∀ j, j < k → vg l j = vg vs j
  bel : Below w.heap.size w wr

theorem FillV.later {w wr wr' : World} {n g k : Nat} {vs l : List Vl} (h : FillV w wr n g k vs l) (hb : Below wr.heap.size wr wr') : FillV w wr' n g k vs l :=
  ⟨h.row.below hb, h.len, h.same, h.bel.trans (hb.mono h.bel.size)⟩

theorem FillV.step {w wr : World} {n g k : Nat} {vs l : List Vl} (h : FillV w wr n g k vs l) (hg : w.heap.size ≤ g) (hk : k < n) : FillV w (World.setVl wr g (k * 3) (vg vs k)) n g (k + 1) vs (l.set k (vg vs k)) := by
  have hl := h.len
  refine ⟨h.row.set (by omega) _, by rw [List.length_set]; exact hl, fun j hj => ?_, Below.setVl h.bel hg _ _⟩
  by_cases e : j = k
  · subst e
    simp [vg, List.getElem?_set, hl, hk]
  · have : vg (l.set k (vg vs k)) j = vg l j := by simp only [vg, List.getD_eq_getElem?_getD]; rw [List.getElem?_set_ne (fun x => e x.symm)]
    rw [this]
    exact h.same j (by omega)

theorem FillV.done {w wr : World} {n g : Nat} {vs l : List Vl} (h : FillV w wr n g n vs l) (hv : vs.length = n) : l = vs := by
  apply List.ext_getElem?
  intro j
  have hl := h.len
  by_cases hj : j < n
  · rw [vg_get (by omega), vg_get (by omega), h.same j hj]
  · rw [List.getElem?_eq_none (by omega), List.getElem?_eq_none (by omega)]

set_option maxRecDepth 100000 in
set_option maxHeartbeats 1600000 in
theorem toValues_some (ad : Addr) (n c b o : Nat) (vs : List Vl) (w : World) (hn : (n : Int) ≤ 1048576) (V : Vls w (some ad) n b o vs) :
    Calls Try.prog 24 #[.slice (some ad) n c] w fun e w' => e = .returned (.slice (some ⟨w.heap.size, 0, none⟩) n n) ∧ RowV w' w.heap.size 41 vs ∧ Below w.heap.size w w' := by
  obtain ⟨i41, hi41, hz0, hz1, hz2⟩ := info_parts Try.info41
  have hlen := V.len
  have F0 : FillV w (w.alloc (.cells (madeCells #[.int .u8 0, .int .i64 0, .string ByteArray.empty] (n * 3)) 41)) n w.heap.size 0 vs (List.replicate n vl0) :=
    ⟨RowV.made w 41 n, by simp, fun j hj => by omega, (Below.refl _ _).alloc (Nat.le_refl _) _⟩
  have HF : Hid _ := F0
  have HV : Hid _ := V
  have HL : Hid _ := hlen
  clear F0 V hlen
  go_enter Try.func24, Try.ntmps24
  go_wp2_with (at_make; go_must (refine wpList_make_exact _ rfl _ _ 53 rfl 41 i41 (.agg #[.int .u8 0, .int .i64 0, .string ByteArray.empty]) 3 Try.underlying53 hi41 hz0 hz1 .i64 .i64 _ _ n n rfl rfl rfl rfl (Nat.le_refl _) (by rw [hz2]; omega) (by unfold maxLen; omega) ?_))
  go_loopw [4] (fun i wr => ∃ (k : Nat) (l : List Vl), k ≤ n ∧ i = .int .i64 k ∧ FillV w wr n w.heap.size k vs l) (fun i _ => n - (intOf i).toNat)
  case atStart => exact ⟨0, _, Nat.zero_le _, rfl, HF.out⟩
  case round =>
    obtain ⟨k, l, hk, rfl, hfill⟩ := hrel
    clear HF
    by_cases hlt : k < n
    · have hx := (Vls.below HV.out hfill.bel).cell k hlt
      have hadd := HV.out.ad (by omega)
      obtain rfl : ad = ⟨b, o, none⟩ := by simpa using hadd
      have hbl : b < w.heap.size := HV.out.lt (by omega)
      have hne : ¬ w.heap.size = b := by omega
      have hne' : ¬ b = w.heap.size := by omega
      have hst : ∀ w1, Below wr.heap.size wr w1 → FillV w (World.setVl w1 w.heap.size (k * 3) (vg vs k)) n w.heap.size (k + 1) vs (l.set k (vg vs k)) := fun w1 h1 => (hfill.later h1).step (Nat.le_refl _) hlt
      have hfr : ∀ j w1, Below wr.heap.size wr w1 → w1.frozen? ⟨w.heap.size, j, none⟩ = false := fun j w1 h1 => (hfill.later h1).row.frozen j
      have hat : ∀ w1, Below wr.heap.size wr w1 → VlAt w1 w.heap.size (k * 3) (vg l k) := fun w1 h1 => (hfill.later h1).row.at (by have := hfill.len; omega)
      generalize vg vs k = x at *
      obtain ⟨s0, s1, s2⟩ := hx
      have HST : Hid _ := hst
      have HFR : Hid _ := hfr
      have HAT : Hid _ := hat
      clear hst hfill hadd hfr hat
      go_wp2_with fail
      go_region_held3 (fun w' => (w'.cell? ⟨b, o + k * 3, none⟩ = some (.int .u8 x.kd) ∧ w'.cell? ⟨b, o + k * 3 + 1, none⟩ = some (.int .i64 x.nm) ∧ w'.cell? ⟨b, o + k * 3 + 2, none⟩ = some (.string x.tx))) (go_keep) (first | (go_at_call 40; refine (makeValue_any _ _ _ _).mono ?_; rintro e wx ⟨rfl, hbx⟩; have hb1 : Below wr.heap.size wr wx := Below.trans (below_drewN (Below.refl _ _) 1) hbx; have t0 := cell_later hb1 s0; have t1 := cell_later hb1 s1; have t2 := cell_later hb1 s2; obtain ⟨y0, y1, y2⟩ := HAT.out wx hb1; have z0 := HFR.out (k * 3) wx hb1; have z1 := HFR.out (k * 3 + 1) wx hb1; have z2 := HFR.out (k * 3 + 2) wx hb1; have HX := HST.out wx hb1; have HXX : Hid _ := HX; clear HX))
      go_wp2
      go_roundw
      case rel => exact ⟨k + 1, _, by omega, by go_num, HXX.out⟩
      case measure => simp [intOf]; omega
    · obtain rfl : k = n := by omega
      have HFL : Hid _ := hfill
      clear hfill
      go_wp2
      go_ret
      have := FillV.row HFL.out
      rw [FillV.done HFL.out HL.out] at this
      exact ⟨rfl, this, FillV.bel HFL.out⟩

theorem toValues_none (c : Nat) (n : Nat) (w : World) :
    Calls Try.prog 24 #[.slice none n c] w fun e w' => e = .returned (.slice none 0 0) ∧ w' = w := by
  go_enter Try.func24, Try.ntmps24
  go_wp2
  go_ret
  exact ⟨rfl, rfl⟩

theorem toValues_any (a : Option Addr) (n c b o : Nat) (vs : List Vl) (w : World) (hn : (n : Int) ≤ 1048576) (V : Vls w a n b o vs) :
    Calls Try.prog 24 #[.slice a n c] w fun e w' => ∃ a' g, e = .returned (.slice a' n n) ∧ (a' = none ↔ a = none) ∧ Vls w' a' n g 0 vs ∧ w.heap.size ≤ g ∧ Below w.heap.size w w' := by
  cases a with
  | none =>
    have h0 : n = 0 := by
      by_cases h : 0 < n
      · have := V.ad h; cases this
      · omega
    subst h0
    refine (toValues_none c 0 w).mono ?_
    rintro e w' ⟨rfl, rfl⟩
    exact ⟨none, w'.heap.size, rfl, Iff.rfl, ⟨V.len, fun h => by omega, fun j hj => by omega⟩, Nat.le_refl _, Below.refl _ _⟩
  | some ad =>
    refine (toValues_some ad n c b o vs w hn V).mono ?_
    rintro e w' ⟨rfl, h1, h2⟩
    have := h1.vls
    rw [V.len] at this
    exact ⟨_, w.heap.size, rfl, by simp, this, Nat.le_refl _, h2⟩

set_option maxRecDepth 100000 in
set_option maxHeartbeats 1600000 in
theorem sameValues_some (ad : Addr) (n c b o : Nat) (ad' : Addr) (c' b' o' : Nat) (vs : List Vl) (w : World) (hn : (n : Int) ≤ 1048576) (V : Vls w (some ad) n b o vs) (V' : Vls w (some ad') n b' o' vs) :
    Calls Try.prog 28 #[.slice (some ad) n c, .slice (some ad') n c'] w fun e w' => e = .returned (.bool true) ∧ Below w.heap.size w w' := by
  have HV : Hid _ := V
  have HV' : Hid _ := V'
  clear V V'
  go_enter Try.func28, Try.ntmps28
  go_wp2
  go_loopw [5] (fun i wr => ∃ k : Nat, k ≤ n ∧ i = .int .i64 k ∧ Below w.heap.size w wr) (fun i _ => n - (intOf i).toNat)
  case atStart => exact ⟨0, Nat.zero_le _, rfl, Below.refl _ _⟩
  case round =>
    obtain ⟨k, hk, rfl, hbel⟩ := hrel
    by_cases hlt : k < n
    · obtain ⟨s0, s1, s2⟩ := (Vls.below HV.out hbel).cell k hlt
      obtain ⟨t0, t1, t2⟩ := (Vls.below HV'.out hbel).cell k hlt
      have h1 := HV.out.ad (by omega)
      have h2 := HV'.out.ad (by omega)
      obtain rfl : ad = ⟨b, o, none⟩ := by simpa using h1
      obtain rfl : ad' = ⟨b', o', none⟩ := by simpa using h2
      clear h1 h2
      generalize vg vs k = x at *
      go_wp2_with (go_at_call 39; refine (valueFields_any _ _ _ _).mono ?_; rintro e wx ⟨rfl, hbx⟩; have r0 := cell_later hbx t0; have r1 := cell_later hbx t1; have r2 := cell_later hbx t2)
      go_roundw
      case rel => exact ⟨k + 1, by omega, by go_num, hbel.trans (hbx.mono hbel.size)⟩
      case measure => simp [intOf]; omega
    · obtain rfl : k = n := by omega
      go_wp2
      go_ret
      exact ⟨rfl, hbel⟩

set_option maxRecDepth 100000 in
set_option maxHeartbeats 1600000 in
theorem sameValues_none (c c' : Nat) (w : World) :
    Calls Try.prog 28 #[.slice none 0 c, .slice none 0 c'] w fun e w' => e = .returned (.bool true) ∧ w' = w := by
  go_enter Try.func28, Try.ntmps28
  go_wp2
  go_loop [5] (fun i => i = .int .i64 0) (fun i => 0)
  case atStart => rfl
  case round =>
    subst hrel
    go_wp2
    go_ret
    exact ⟨rfl, rfl⟩

theorem sameValues_any (a : Option Addr) (n c b o : Nat) (a' : Option Addr) (c' b' o' : Nat) (vs : List Vl) (w : World) (hn : (n : Int) ≤ 1048576) (V : Vls w a n b o vs) (V' : Vls w a' n b' o' vs) (ha : a = none ↔ a' = none) :
    Calls Try.prog 28 #[.slice a n c, .slice a' n c'] w fun e w' => e = .returned (.bool true) ∧ Below w.heap.size w w' := by
  cases a with
  | none =>
    have := ha.1 rfl
    subst this
    have h0 : n = 0 := by
      by_cases h : 0 < n
      · have := V.ad h; cases this
      · omega
    subst h0
    refine (sameValues_none c c' w).mono ?_
    rintro e w' ⟨rfl, rfl⟩
    exact ⟨rfl, Below.refl _ _⟩
  | some ad =>
    cases a' with
    | none => have := ha.2 rfl; cases this
    | some ad' => exact sameValues_some ad n c b o ad' c' b' o' vs w hn V V'
end Go.Proofs.Qxb6601655a
