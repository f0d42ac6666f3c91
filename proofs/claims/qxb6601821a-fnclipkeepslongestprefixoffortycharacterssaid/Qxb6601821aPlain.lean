import Derived.Test.Qxb6601821aRows
import Derived.Laws.RangeString
namespace Go.Proofs.Qxb6601821a
set_option linter.unusedSimpArgs false
set_option linter.unusedVariables false

/-- the byte at k -/
def byt (s : ByteArray) (k : Nat) : Nat := (s.get! k).toNat
/-- the width of the character that starts at i, as the model decodes -/
def wid (s : ByteArray) (i : Nat) : Nat := (Utf8.decode s i).2

theorem byt_lt (s : ByteArray) (k : Nat) : byt s k < 256 := UInt8.toNat_lt _

/-- the width, over the four bytes and the places where the text ends -/
def widOf (b0 b1 b2 b3 : Nat) (k1 k2 k3 : Bool) : Nat :=
  if b0 < 128 then 1
  else if b0 / 32 = 6 ∧ k1 = true ∧ b1 / 64 = 2 then (if 128 ≤ (b0 % 32) * 64 + b1 % 64 then 2 else 1)
  else if b0 / 16 = 14 ∧ (k1 = true ∧ b1 / 64 = 2) ∧ (k2 = true ∧ b2 / 64 = 2) then
    (if 2048 ≤ (b0 % 16) * 4096 + (b1 % 64) * 64 + b2 % 64 ∧ ((b0 % 16) * 4096 + (b1 % 64) * 64 + b2 % 64 < 55296 ∨ 57344 ≤ (b0 % 16) * 4096 + (b1 % 64) * 64 + b2 % 64 ∧ (b0 % 16) * 4096 + (b1 % 64) * 64 + b2 % 64 ≤ 1114111) then 3 else 1)
  else if b0 / 8 = 30 ∧ (k1 = true ∧ b1 / 64 = 2) ∧ (k2 = true ∧ b2 / 64 = 2) ∧ (k3 = true ∧ b3 / 64 = 2) then
    (if 65536 ≤ (b0 % 8) * 262144 + (b1 % 64) * 4096 + (b2 % 64) * 64 + b3 % 64 ∧ ((b0 % 8) * 262144 + (b1 % 64) * 4096 + (b2 % 64) * 64 + b3 % 64 < 55296 ∨ 57344 ≤ (b0 % 8) * 262144 + (b1 % 64) * 4096 + (b2 % 64) * 64 + b3 % 64 ∧ (b0 % 8) * 262144 + (b1 % 64) * 4096 + (b2 % 64) * 64 + b3 % 64 ≤ 1114111) then 4 else 1)
  else 1

theorem valid_iff (n : Nat) : (Utf8.valid (n : Int) = true) ↔ (n < 55296 ∨ 57344 ≤ n ∧ n ≤ 1114111) := by
  simp only [Utf8.valid, Bool.or_eq_true, Bool.and_eq_true, decide_eq_true_eq]
  omega

theorem dec_abs (b0 b1 b2 b3 : Nat) (k1 k2 k3 : Bool) :
    (if b0 < 0x80 then (b0, 1)
      else if b0 / 32 == 6 && (k1 && b1 / 64 == 2) then
        (if (b0 % 32) * 64 + b1 % 64 ≥ 0x80 then ((b0 % 32) * 64 + b1 % 64, 2) else (Utf8.runeError, 1))
      else if b0 / 16 == 14 && (k1 && b1 / 64 == 2) && (k2 && b2 / 64 == 2) then
        (if (b0 % 16) * 4096 + (b1 % 64) * 64 + b2 % 64 ≥ 0x800 && Utf8.valid ((b0 % 16) * 4096 + (b1 % 64) * 64 + b2 % 64 : Nat) then ((b0 % 16) * 4096 + (b1 % 64) * 64 + b2 % 64, 3) else (Utf8.runeError, 1))
      else if b0 / 8 == 30 && (k1 && b1 / 64 == 2) && (k2 && b2 / 64 == 2) && (k3 && b3 / 64 == 2) then
        (if (b0 % 8) * 262144 + (b1 % 64) * 4096 + (b2 % 64) * 64 + b3 % 64 ≥ 0x10000 && Utf8.valid ((b0 % 8) * 262144 + (b1 % 64) * 4096 + (b2 % 64) * 64 + b3 % 64 : Nat) then ((b0 % 8) * 262144 + (b1 % 64) * 4096 + (b2 % 64) * 64 + b3 % 64, 4) else (Utf8.runeError, 1))
      else (Utf8.runeError, 1)).2 = widOf b0 b1 b2 b3 k1 k2 k3 := by
  unfold widOf
  simp only [← valid_iff]
  cases k1 <;> cases k2 <;> cases k3
  all_goals simp only [Bool.and_eq_true, Bool.and_true, Bool.true_and, Bool.and_false, Bool.false_and, Bool.false_eq_true, true_and, false_and, and_false, decide_eq_true_eq, beq_iff_eq, ge_iff_le, if_false]
  all_goals (repeat' split)
  all_goals first | rfl | omega | (exfalso; simp_all; done) | trace_state

theorem wid_eq0 (s : ByteArray) (i : Nat) : wid s i = widOf (byt s (i + 0)) (byt s (i + 1)) (byt s (i + 2)) (byt s (i + 3)) (decide (i + 1 < s.size)) (decide (i + 2 < s.size)) (decide (i + 3 < s.size)) :=
  dec_abs _ _ _ _ _ _ _

theorem wid_eq (s : ByteArray) (i : Nat) : wid s i = widOf (byt s i) (byt s (i + 1)) (byt s (i + 2)) (byt s (i + 3)) (decide (i + 1 < s.size)) (decide (i + 2 < s.size)) (decide (i + 3 < s.size)) := wid_eq0 s i

/-- the rest of the table's width, behind the leading byte -/
def tailW (s : ByteArray) (i need lo hi : Nat) : Nat :=
  if s.size < i + need then 1
  else if byt s (i + 1) < lo ∨ hi < byt s (i + 1) then 1
  else if (need ≤ 2 ∨ 128 ≤ byt s (i + 2) ∧ byt s (i + 2) ≤ 191) ∧ (need ≤ 3 ∨ 128 ≤ byt s (i + 3) ∧ byt s (i + 3) ≤ 191) then need else 1

theorem wid_small {s : ByteArray} {i : Nat} (h : byt s i < 128) : wid s i = 1 := by
  rw [wid_eq]; simp [widOf, h]

theorem wid_stray {s : ByteArray} {i : Nat} (h : byt s i < 194 ∨ 244 < byt s i) : wid s i = 1 := by
  rw [wid_eq]; unfold widOf
  have b0 := byt_lt s i
  have b1 := byt_lt s (i + 1)
  have b2 := byt_lt s (i + 2)
  have b3 := byt_lt s (i + 3)
  simp only [decide_eq_true_eq]
  repeat' split
  all_goals omega

theorem wid_tail {s : ByteArray} {i need lo hi : Nat} (h : (194 ≤ byt s i ∧ byt s i ≤ 223 ∧ need = 2 ∧ lo = 128 ∧ hi = 191) ∨ (byt s i = 224 ∧ need = 3 ∧ lo = 160 ∧ hi = 191)
    ∨ (225 ≤ byt s i ∧ byt s i ≤ 236 ∧ need = 3 ∧ lo = 128 ∧ hi = 191) ∨ (byt s i = 237 ∧ need = 3 ∧ lo = 128 ∧ hi = 159) ∨ ((byt s i = 238 ∨ byt s i = 239) ∧ need = 3 ∧ lo = 128 ∧ hi = 191)
    ∨ (byt s i = 240 ∧ need = 4 ∧ lo = 144 ∧ hi = 191) ∨ (241 ≤ byt s i ∧ byt s i ≤ 243 ∧ need = 4 ∧ lo = 128 ∧ hi = 191) ∨ (byt s i = 244 ∧ need = 4 ∧ lo = 128 ∧ hi = 143)) :
    wid s i = tailW s i need lo hi := by
  rw [wid_eq]; unfold widOf tailW
  have b0 := byt_lt s i
  have b1 := byt_lt s (i + 1)
  have b2 := byt_lt s (i + 2)
  have b3 := byt_lt s (i + 3)
  generalize byt s i = c0 at *
  generalize byt s (i + 1) = c1 at *
  generalize byt s (i + 2) = c2 at *
  generalize byt s (i + 3) = c3 at *
  simp only [decide_eq_true_eq]
  rcases h with ⟨h1, h2, rfl, rfl, rfl⟩ | ⟨h1, rfl, rfl, rfl⟩ | ⟨h1, h2, rfl, rfl, rfl⟩ | ⟨h1, rfl, rfl, rfl⟩ | ⟨h1, rfl, rfl, rfl⟩ | ⟨h1, rfl, rfl, rfl⟩ | ⟨h1, h2, rfl, rfl, rfl⟩ | ⟨h1, rfl, rfl, rfl⟩
  all_goals (repeat' split)
  all_goals omega

theorem wid_pos (s : ByteArray) (i : Nat) : 1 ≤ wid s i := by
  rw [wid_eq]; unfold widOf
  repeat' split
  all_goals omega

theorem wid_in {s : ByteArray} {i : Nat} (h : i < s.size) : i + wid s i ≤ s.size := by
  rw [wid_eq]; unfold widOf
  simp only [decide_eq_true_eq]
  repeat' split
  all_goals omega

/-- the first l bytes -/
def pre (s : ByteArray) (l : Nat) : ByteArray := s.extract 0 l

theorem pre_size {s : ByteArray} {l : Nat} (h : l ≤ s.size) : (pre s l).size = l := by
  simp [pre, ByteArray.size_extract]; omega

theorem get!_pos {s : ByteArray} {k : Nat} (h : k < s.size) : s.get! k = s[k]'h := by
  simp [ByteArray.get!, getElem!_pos, h]; rfl

theorem pre_byt {s : ByteArray} {l k : Nat} (h : l ≤ s.size) (hk : k < l) : byt (pre s l) k = byt s k := by
  have e := pre_size h
  unfold byt
  rw [get!_pos (by omega), get!_pos (by omega)]
  simp [pre, ByteArray.getElem_extract]

theorem wid_pre {s : ByteArray} {l i : Nat} (h : l ≤ s.size) (hi : i < l) (hw : i + wid s i ≤ l) : wid (pre s l) i = wid s i := by
  rw [wid_eq] at hw ⊢
  rw [wid_eq s i]
  rw [pre_size h, pre_byt h hi]
  unfold widOf at *
  simp only [decide_eq_true_eq] at hw ⊢
  by_cases h1 : i + 1 < l
  · rw [pre_byt h h1]
    by_cases h2 : i + 2 < l
    · rw [pre_byt h h2]
      by_cases h3 : i + 3 < l
      · rw [pre_byt h h3]
        have g1 : i + 1 < s.size := by omega
        have g2 : i + 2 < s.size := by omega
        have g3 : i + 3 < s.size := by omega
        simp only [h1, h2, h3, g1, g2, g3, true_and]
      · simp only [h3, false_and, and_false, if_false] at hw ⊢
        have g1 : i + 1 < s.size := by omega
        have g2 : i + 2 < s.size := by omega
        simp only [h1, h2, g1, g2, true_and] at hw ⊢
        repeat' split
        all_goals first | rfl | omega | (rename_i q1 q2 q3 q4 q5; simp only [q1, q2, q3, q4, q5, if_true, if_false, true_and, and_true, and_self] at hw; omega) | (simp_all; done) | (simp_all; omega) | trace_state
    · simp only [h2, false_and, and_false, if_false] at hw ⊢
      have g1 : i + 1 < s.size := by omega
      simp only [h1, g1, true_and] at hw ⊢
      repeat' split
      all_goals first | rfl | omega | (rename_i q1 q2 q3 q4 q5; simp only [q1, q2, q3, q4, q5, if_true, if_false, true_and, and_true, and_self] at hw; omega) | (simp_all; done) | (simp_all; omega) | trace_state
  · simp only [h1, false_and, and_false, if_false] at hw ⊢
    repeat' split
    all_goals first | rfl | omega | (rename_i q1 q2 q3 q4 q5; simp only [q1, q2, q3, q4, q5, if_true, if_false, true_and, and_true, and_self] at hw; omega) | (simp_all; done) | (simp_all; omega) | trace_state

/-- where the n-th character starts -/
def pos (s : ByteArray) : Nat → Nat
  | 0 => 0
  | n + 1 => pos s n + wid s (pos s n)

theorem pos_step (s : ByteArray) (n : Nat) : pos s n < pos s (n + 1) := by
  have := wid_pos s (pos s n)
  show pos s n < pos s n + wid s (pos s n)
  omega

theorem pos_mono (s : ByteArray) {n m : Nat} (h : n ≤ m) : pos s n ≤ pos s m := by
  induction m with
  | zero => obtain rfl : n = 0 := by omega
            exact Nat.le_refl _
  | succ m ih =>
    by_cases e : n = m + 1
    · subst e; exact Nat.le_refl _
    · exact Nat.le_trans (ih (by omega)) (Nat.le_of_lt (pos_step s m))

theorem pos_pre {s : ByteArray} {l n : Nat} (h : l ≤ s.size) (hn : pos s n ≤ l) : ∀ j, j ≤ n → pos (pre s l) j = pos s j := by
  intro j
  induction j with
  | zero => intro _; rfl
  | succ j ih =>
    intro hj
    have e := ih (by omega)
    have h1 := pos_step s j
    have h2 := pos_mono s hj
    show pos (pre s l) j + wid (pre s l) (pos (pre s l) j) = pos s j + wid s (pos s j)
    rw [e, wid_pre h (by omega) (by have : pos s (j + 1) = pos s j + wid s (pos s j) := rfl
                                    omega)]
end Go.Proofs.Qxb6601821a
