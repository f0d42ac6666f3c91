import Derived.Test.Qxb6601821aWidth
import Derived.Lib.OthersKept
namespace Go.Proofs.Qxb6601821a
set_option linter.unusedSimpArgs false
set_option linter.unusedVariables false
open Go.RowKit

set_option maxHeartbeats 1000000 in
theorem bytes_any (s : ByteArray) (w : World) (hs : s.size ≤ maxLen) :
    Calls Try.prog 6 #[.string s] w fun e w' => e = .returned (.bool (decide (s.size ≤ 1048576))) ∧ w' = w := by
  have hm : s.size ≤ 9223372036854775807 := by simp only [maxLen] at hs; omega
  by_cases h : s.size ≤ 1048576
  · have e : decide (s.size ≤ 1048576) = true := by simp [h]
    rw [e]
    go_enter Try.func6, Try.ntmps6
    go_wp2
    all_goals first | (exfalso; omega) | (go_ret; exact ⟨rfl, rfl⟩)
  · have e : decide (s.size ≤ 1048576) = false := by simp [h]
    rw [e]
    go_enter Try.func6, Try.ntmps6
    go_wp2
    all_goals first | (exfalso; omega) | (go_ret; exact ⟨rfl, rfl⟩)

/-- c is the number of s's characters, counted up to 41 -/
def Cnt (s : ByteArray) (c : Nat) : Prop := c ≤ 41 ∧ (∀ j, j < c → pos s j < s.size) ∧ (c = 41 ∨ s.size ≤ pos s c)

set_option maxRecDepth 100000 in
set_option maxHeartbeats 1600000 in
theorem chars_any (s : ByteArray) (w : World) (hs : s.size ≤ 65536) :
    Calls Try.prog 8 #[.string s, .int .i64 41] w fun e w' => ∃ c : Nat, e = .returned (.int .i64 c) ∧ Cnt s c ∧ w' = w := by
  go_enter Try.func8, Try.ntmps8
  go_wp2
  go_loop [5, 6] (fun x y => ∃ c : Nat, c ≤ 41 ∧ (∀ j, j < c → pos s j < s.size) ∧ pos s c ≤ s.size ∧ x = .int .i64 c ∧ y = .int .i64 (pos s c)) (fun x y => 41 - (intOf x).toNat)
  case atStart => exact ⟨0, by omega, fun j hj => by omega, Nat.zero_le _, rfl, rfl⟩
  case round =>
    obtain ⟨c, hc, hall, hle, rfl, rfl⟩ := hrel
    have hall' : pos s c < s.size → ∀ j, j < c + 1 → pos s j < s.size := by
      intro h j hj
      by_cases e : j = c
      · subst e; exact h
      · exact hall j (by omega)
    have HA : Hid _ := hall
    have HB : Hid _ := hall'
    clear hall hall'
    by_cases h1 : pos s c < s.size
    · by_cases h2 : c < 41
      · have hw := wid_in h1
        have hp : pos s (c + 1) = pos s c + wid s (pos s c) := rfl
        generalize hq : pos s c = q at *
        generalize hv : wid s q = v at *
        go_wp2_with (go_at_call 12; refine (width_any s q _ h1 hs).mono ?_; rintro e wx ⟨rfl, hwx⟩; subst hwx; rw [hv])
        go_round
        case rel => exact ⟨c + 1, by omega, HB.out h1, by omega, by go_num, by rw [hp]; go_num⟩
        case measure => simp [intOf]; omega
      · obtain rfl : c = 41 := by omega
        go_wp2
        go_ret
        exact ⟨41, rfl, ⟨by omega, HA.out, .inl rfl⟩, rfl⟩
    · go_wp2
      go_ret
      exact ⟨c, rfl, ⟨hc, HA.out, .inr (by omega)⟩, rfl⟩

/-- clip's answer -/
def Clipped (s : ByteArray) (e : Ending) : Prop :=
  (pos s 40 < s.size ∧ e = .returned (.tuple #[.string (pre s (pos s 40)), .string ⟨#[46, 46, 46]⟩]))
  ∨ (∃ n, n ≤ 40 ∧ s.size ≤ pos s n ∧ e = .returned (.tuple #[.string s, .string ⟨#[]⟩]))

set_option maxRecDepth 100000 in
set_option maxHeartbeats 1600000 in
theorem clip_any (s : ByteArray) (w : World) (hs : s.size ≤ 65536) :
    Calls Try.prog 11 #[.string s] w fun e w' => Clipped s e ∧ Below w.heap.size w w' := by
  go_enter Try.func11, Try.ntmps11
  go_wp2
  go_loopw [4] (fun x wr => ∃ n : Nat, n ≤ 40 ∧ wr.heap[w.heap.size]? = some (.stringIter s (pos s n)) ∧ Below w.heap.size w wr ∧ x = .int .i64 n) (fun x wr => 40 - (intOf x).toNat)
  case atStart =>
    refine ⟨0, by omega, World.iter_heap w s 0, (Below.refl _ w).alloc (Nat.le_refl _) _, rfl⟩
  case round =>
    obtain ⟨n, hn, hit, hbw, rfl⟩ := hrel
    by_cases hp : pos s n < s.size
    · have hnx : ∀ ty, (Instr.next (.pointer (some ⟨w.heap.size, 0, none⟩)) true ty).run Try.prog wr = _ := fun ty => Lib.run_next_any_at wr w.heap.size s (pos s n) ty hit hp
      have hit2 := Lib.iterAt_heap wr w.heap.size s (pos s n) (pos s n + (Utf8.decode s (pos s n)).2) hit
      have hbw2 := Lib.below_iterAt hbw (k := w.heap.size) (Nat.le_refl _) s (pos s n + (Utf8.decode s (pos s n)).2)
      have H1 : Hid _ := hit2
      have H2 : Hid _ := hbw2
      clear hit2 hbw2
      by_cases h40 : n = 40
      · subst h40
        have hp0 : pos s 40 ≤ s.size := by omega
        go_wp2
        exact bodyPost_ret (v := .tuple #[.string (pre s (pos s 40)), .string ⟨#[46, 46, 46]⟩]) (by simp [results, Try.results11, go_sem, pre]) rfl ⟨.inl ⟨hp, rfl⟩, H2.out⟩
      · go_wp2
        go_roundw
        case rel => exact ⟨n + 1, by omega, H1.out, H2.out, by go_num⟩
        case measure => simp [intOf]; omega
    · have hnx : ∀ ty, (Instr.next (.pointer (some ⟨w.heap.size, 0, none⟩)) true ty).run Try.prog wr = _ := fun ty => Lib.run_next_end_at wr w.heap.size s (pos s n) ty hit hp
      go_wp2
      refine bodyPost_ret (v := .tuple #[.string s, .string ⟨#[]⟩]) (by simp [results, Try.results11, go_sem]) rfl ⟨.inr ⟨n, hn, by omega, rfl⟩, hbw⟩

theorem zzclip_any (s : ByteArray) (w : World) (hs : s.size ≤ 65536) :
    Calls Try.prog 7 #[.string s] w fun e w' => Clipped s e ∧ Below w.heap.size w w' := by
  go_enter Try.func7, Try.ntmps7
  go_wp2_with (go_at_call 11; refine (clip_any s _ hs).mono ?_; rintro e wx ⟨hc, hb⟩; rcases hc with ⟨hp, rfl⟩ | ⟨n, hn, hp, rfl⟩)
  · exact bodyPost_ret (v := .tuple #[.string (pre s (pos s 40)), .string ⟨#[46, 46, 46]⟩]) (by simp [results, Try.results7, go_sem]) rfl ⟨.inl ⟨hp, rfl⟩, hb⟩
  · exact bodyPost_ret (v := .tuple #[.string s, .string ⟨#[]⟩]) (by simp [results, Try.results7, go_sem]) rfl ⟨.inr ⟨n, hn, hp, rfl⟩, hb⟩

theorem extract_all (s : ByteArray) : s.extract 0 s.size = s := by
  simp

/-- the plain law -/
theorem clipped_out {s : ByteArray} {e : Ending} (h : Clipped s e) : ∃ (hd more : ByteArray) (p : Nat), e = .returned (.tuple #[.string hd, .string more]) ∧ hd.size = p ∧ s.extract 0 p = hd ∧ p ≤ s.size ∧ (∀ c, Cnt hd c → c ≤ 40) ∧
    (∀ l, p < l → l ≤ s.size → ∀ c, Cnt (s.extract 0 l) c → 40 < c) ∧ (p = s.size → more = ⟨#[]⟩) ∧ (p ≠ s.size → more = ⟨#[46, 46, 46]⟩) := by
  rcases h with ⟨hp, rfl⟩ | ⟨n, hn, hp, rfl⟩
  · have hle : pos s 40 ≤ s.size := by omega
    refine ⟨_, _, pos s 40, rfl, pre_size hle, rfl, hle, ?_, ?_, fun h => by omega, fun _ => rfl⟩
    · rintro c ⟨c1, c2, c3⟩
      by_cases h : c ≤ 40
      · exact h
      · have := c2 40 (by omega)
        rw [pos_pre hle (Nat.le_refl _) 40 (Nat.le_refl _), pre_size hle] at this
        omega
    · rintro l hl hls c ⟨c1, c2, c3⟩
      rcases c3 with rfl | c3
      · omega
      · by_cases h : 40 < c
        · exact h
        · have e1 := pos_pre hls (Nat.le_of_lt hl) c (by omega)
          have e2 := pos_mono s (n := c) (m := 40) (by omega)
          have e3 : (s.extract 0 l).size = l := pre_size hls
          have e4 : pos (s.extract 0 l) c = pos s c := e1
          omega
  · refine ⟨_, _, s.size, rfl, rfl, extract_all s, Nat.le_refl _, ?_, fun l a b => by omega, fun _ => rfl, fun h => absurd rfl h⟩
    rintro c ⟨c1, c2, c3⟩
    by_cases h : c ≤ 40
    · exact h
    · have := c2 n (by omega)
      omega

set_option maxRecDepth 100000 in
set_option maxHeartbeats 3200000 in
theorem law (s : ByteArray) (w : World) (hm : s.size ≤ maxLen) :
    Calls Try.prog 3 #[.string s] w fun e w' => e = .returned (.bool true) ∧ Below w.heap.size w w' := by
  have hm' : s.size ≤ 9223372036854775807 := by simp only [maxLen] at hm; omega
  by_cases h1 : s.size ≤ 65536
  · have b1 : decide (s.size ≤ 1048576) = true := by simp; omega
    go_enter Try.func3, Try.ntmps3
    go_wp2_with (first | (go_at_call 6; refine (bytes_any s _ hm).mono ?_; rintro e wx ⟨rfl, hwx⟩; subst hwx; rw [b1]; clear b1) | (go_at_call 7; refine (zzclip_any s _ h1).mono ?_; rintro e wy ⟨hc, hb⟩; obtain ⟨hd, more, p, rfl, hsz, hex, hps, hc1, hc2, hm1, hm2⟩ := clipped_out hc; have HC1 : Hid _ := hc1; have HC2 : Hid _ := hc2; have HM1 : Hid _ := hm1; have HM2 : Hid _ := hm2; clear hc hc1 hc2 hm1 hm2) | (go_at_call 8; refine (chars_any hd _ (by omega)).mono ?_; rintro e wz ⟨c, rfl, hc, hwz⟩; subst hwz; have hc4 := HC1.out c hc; clear hc))
    go_loop [5] (fun x => ∃ l : Nat, p + 1 ≤ l ∧ l ≤ s.size + 1 ∧ x = .int .i64 l) (fun x => s.size + 1 - (intOf x).toNat)
    case atStart => exact ⟨p + 1, by omega, by omega, by go_num⟩
    case round =>
      obtain ⟨l, hl1, hl2, rfl⟩ := hrel
      by_cases hlt : l ≤ s.size
      · have hz : (s.extract 0 l).size = l := pre_size hlt
        go_wp2_with (go_at_call 8; refine (chars_any (s.extract 0 l) _ (by omega)).mono ?_; rintro e wq ⟨d, rfl, hd4, hwq⟩; subst hwq; have hd5 := HC2.out l (by omega) hlt d hd4; clear hd4)
        all_goals try (exfalso; omega)
        go_round
        case rel => exact ⟨l + 1, by omega, by omega, by go_num⟩
        case measure => simp [intOf]; omega
      · by_cases hq : p = s.size
        · have hmo := HM1.out hq
          subst hmo
          go_wp2
          all_goals first | (exfalso; omega) | (go_ret; exact ⟨rfl, hb⟩)
        · have hmo := HM2.out hq
          subst hmo
          go_wp2
          all_goals first | (exfalso; omega) | (go_ret; exact ⟨rfl, hb⟩)
  · by_cases h2 : s.size ≤ 1048576
    · have b1 : decide (s.size ≤ 1048576) = true := by simp; omega
      go_enter Try.func3, Try.ntmps3
      go_wp2_with (go_at_call 6; refine (bytes_any s _ hm).mono ?_; rintro e wx ⟨rfl, hwx⟩; subst hwx; rw [b1])
      go_ret
      exact ⟨rfl, Below.refl _ _⟩
    · have b1 : decide (s.size ≤ 1048576) = false := by simp; omega
      go_enter Try.func3, Try.ntmps3
      go_wp2_with (go_at_call 6; refine (bytes_any s _ hm).mono ?_; rintro e wx ⟨rfl, hwx⟩; subst hwx; rw [b1])
      go_ret
      exact ⟨rfl, Below.refl _ _⟩
end Go.Proofs.Qxb6601821a
