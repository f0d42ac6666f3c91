import Derived.Test.Qxb6601655aW1
import Derived.Test.Qxb6601655aWEq
import Derived.Deep.RegionHeld3
namespace Go.Proofs.Qxb6601655a
set_option linter.unusedSimpArgs false
set_option linter.unusedVariables false
open Go.RowKit
attribute [local go_sem] Try.eq45 Try.eq46 Try.eq53 Try.ne45

theorem Try.info3 : (Try.prog.info? 3).map (fun i => (i.zero, i.size, i.bytes)) = some (some (.int .i64 0), 1, 8) := by kernel_rfl
theorem Try.info41 : (Try.prog.info? 41).map (fun i => (i.zero, i.size, i.bytes)) = some (some (.agg #[.int .u8 0, .int .i64 0, .string ByteArray.empty]), 3, 32) := by kernel_rfl

theorem info_parts {P : Program} {t : TypeId} {z : Value} {s b : Nat} (h : (P.info? t).map (fun i => (i.zero, i.size, i.bytes)) = some (some z, s, b)) : ∃ i, P.info? t = some i ∧ i.zero = some z ∧ i.size = s ∧ i.bytes = b := by
  cases hi : P.info? t with
  | none => rw [hi] at h; cases h
  | some i =>
    rw [hi] at h
    simp only [Option.map_some, Option.some.injEq, Prod.mk.injEq] at h
    exact ⟨i, rfl, h.1, h.2.1, h.2.2⟩

/-- what the filling keeps: a row of the call's own whose first k cells stand -/
structure Fill (w wr : World) (n g k : Nat) (zs : List Int) : Prop where
  own : Own wr 3 1 (.slice (some ⟨g, 0, none⟩) n n) n n ((zs.map (Value.int .i64)).take k ++ List.replicate (n - k) (Value.int .i64 0))
  bel : Below w.heap.size w wr

theorem Fill.step {w wr : World} {n g k : Nat} {zs : List Int} (h : Fill w wr n g k zs) (hn : zs.length = n) (hg : w.heap.size ≤ g) (hk : k < n) : Fill w (wr.setCell ⟨g, k, none⟩ (.int .i64 (ig zs k))) n g (k + 1) zs := by
  refine ⟨?_, h.bel.setCell (p := ⟨g, k, none⟩) hg _⟩
  have := h.own.stored k (.int .i64 (ig zs k))
  rw [fill_step (zs.map (Value.int .i64)) _ n k (by rw [List.length_map]; exact hn) hk _ (by rw [List.getElem?_map, ig_get (by omega)]; rfl)] at this
  exact this

set_option maxRecDepth 100000 in
set_option maxHeartbeats 1600000 in
theorem cloneInts_some (ad : Addr) (n c b o : Nat) (zs : List Int) (w : World) (hn : (n : Int) ≤ 1048576) (I : Ints w (some ad) n b o zs) :
    Calls Try.prog 23 #[.slice (some ad) n c] w fun e w' => e = .returned (.slice (some ⟨w.heap.size, 0, none⟩) n n) ∧ Ints w' (some ⟨w.heap.size, 0, none⟩) n w.heap.size 0 zs ∧ Below w.heap.size w w' := by
  obtain ⟨i3, hi3, hz0, hz1, hz2⟩ := info_parts Try.info3
  have hlen := I.len
  have F0 : Fill w (w.alloc (.cells (madeCells #[Value.int .i64 0] n) 3)) n w.heap.size 0 zs := by
    refine ⟨?_, (Below.refl _ _).alloc (Nat.le_refl _) _⟩
    have := Own.made w 3 1 n n (Value.int .i64 0).cells (Nat.le_refl _) (by unfold maxLen; omega)
    rw [madeCells_ints, Nat.mul_one] at this
    rw [Nat.sub_zero, List.take_zero, List.nil_append]
    exact this
  have HF : Hid _ := F0
  have HI : Hid _ := I
  have HL : Hid _ := hlen
  clear F0 I hlen
  go_enter Try.func23, Try.ntmps23
  go_wp2_with (at_make; go_must (refine wpList_make_exact _ rfl _ _ 45 rfl 3 i3 (.int .i64 0) 1 Try.underlying45 hi3 hz0 hz1 .i64 .i64 _ _ n n rfl rfl rfl rfl (Nat.le_refl _) (by rw [hz2]; omega) (by unfold maxLen; omega) ?_))

  go_loopw [4] (fun i wr => ∃ k : Nat, k ≤ n ∧ i = .int .i64 k ∧ Fill w wr n w.heap.size k zs) (fun i _ => n - (intOf i).toNat)
  case atStart => exact ⟨0, Nat.zero_le _, rfl, HF.out⟩
  case round =>
    obtain ⟨k, hk, rfl, hfill⟩ := hrel
    clear HF
    by_cases hlt : k < n
    · have hx := (Ints.below HI.out hfill.bel).cell k hlt
      have hfr := hfill.own.frozen k
      have hst := hfill.step HL.out (Nat.le_refl _) hlt
      obtain ⟨z, hz⟩ : ∃ z, z = ig zs k := ⟨_, rfl⟩
      rw [← hz] at hst hx
      have hw1 : wr.cell? ⟨w.heap.size, k, none⟩ = some (.int .i64 0) := by
        rw [hfill.own.cell k]
        have hl : ((zs.map (Value.int .i64)).take k).length = k := by rw [List.length_take, List.length_map, HL.out]; omega
        rw [List.getElem?_append_right (by omega), hl, Nat.sub_self, List.getElem?_replicate, if_pos (by omega)]
      have hadd := HI.out.ad (by omega)
      obtain rfl : ad = ⟨b, o, none⟩ := by simpa using hadd
      have HST : Hid _ := hst
      clear hst hz hfill hadd
      go_wp2
      go_roundw
      case rel => exact ⟨k + 1, by omega, by go_num, HST.out⟩
      case measure => simp [intOf]; omega
    · obtain rfl : k = n := by omega
      have HFL : Hid _ := hfill
      clear hfill
      go_wp2
      go_ret
      have ho := (Fill.own HFL.out)
      refine ⟨rfl, ?_, Fill.bel HFL.out⟩
      obtain ⟨a', b', hv, hI, _, hb⟩ := Ints.own ho (zs := zs) (by rw [Nat.sub_self, List.replicate_zero, List.append_nil, List.take_take, Nat.min_self, List.take_of_length_le (by rw [List.length_map, HL.out]; exact Nat.le_refl _)]) HL.out
      simp only [Value.slice.injEq, and_true] at hv
      subst hv
      rcases hb with hb | hb
      · simp only [Value.ownBlock] at hb
        simp at hb
        subst hb
        exact hI
      · subst hb
        have : zs = [] := List.eq_nil_of_length_eq_zero HL.out
        subst this
        exact Ints.nought _ _ _ _

theorem cloneInts_none (c : Nat) (n : Nat) (w : World) :
    Calls Try.prog 23 #[.slice none n c] w fun e w' => e = .returned (.slice none 0 0) ∧ w' = w := by
  go_enter Try.func23, Try.ntmps23
  go_wp2
  go_ret
  exact ⟨rfl, rfl⟩

theorem cloneInts_any (a : Option Addr) (n c b o : Nat) (zs : List Int) (w : World) (hn : (n : Int) ≤ 1048576) (I : Ints w a n b o zs) :
    Calls Try.prog 23 #[.slice a n c] w fun e w' => ∃ a' g, e = .returned (.slice a' n n) ∧ (a' = none ↔ a = none) ∧ Ints w' a' n g 0 zs ∧ w.heap.size ≤ g ∧ Below w.heap.size w w' := by
  cases a with
  | none =>
    have h0 : n = 0 := by
      by_cases h : 0 < n
      · have := I.ad h; cases this
      · omega
    subst h0
    have : zs = [] := List.eq_nil_of_length_eq_zero I.len
    subst this
    refine (cloneInts_none c 0 w).mono ?_
    rintro e w' ⟨rfl, rfl⟩
    exact ⟨none, w'.heap.size, rfl, Iff.rfl, Ints.nought _ _ _ _, Nat.le_refl _, Below.refl _ _⟩
  | some ad =>
    refine (cloneInts_some ad n c b o zs w hn I).mono ?_
    rintro e w' ⟨rfl, h1, h2⟩
    exact ⟨_, w.heap.size, rfl, by simp, h1, Nat.le_refl _, h2⟩
end Go.Proofs.Qxb6601655a
