/-
  Ascending lists of integers, their merge, a search by halves. No Go in sight.
-/
import Derived.KernelRfl
namespace Go.Proofs.Qxb6601655a
set_option linter.unusedSimpArgs false
set_option linter.unusedVariables false

/-- number j -/
def ig (l : List Int) (j : Nat) : Int := l.getD j 0

theorem ig_get {l : List Int} {j : Nat} (h : j < l.length) : l[j]? = some (ig l j) := by simp [ig, h]
theorem ig_mem {l : List Int} {j : Nat} (h : j < l.length) : ig l j ∈ l := List.mem_of_getElem? (ig_get h)
theorem mem_ig {l : List Int} {x : Int} (h : x ∈ l) : ∃ j, j < l.length ∧ ig l j = x := by
  obtain ⟨j, hj⟩ := List.mem_iff_getElem?.1 h
  have hl := (List.getElem?_eq_some_iff.1 hj).1
  rw [ig_get hl] at hj
  exact ⟨j, hl, Option.some.inj hj⟩

/-- strictly ascending, neighbour by neighbour -/
def Asc (l : List Int) : Prop := ∀ i, 1 ≤ i → i < l.length → ig l (i - 1) < ig l i

theorem Asc.lt {l : List Int} (h : Asc l) {i j : Nat} (hij : i < j) (hj : j < l.length) : ig l i < ig l j := by
  induction j with
  | zero => omega
  | succ j ih =>
    have h1 := h (j + 1) (by omega) hj
    rw [Nat.add_sub_cancel] at h1
    by_cases e : i = j
    · subst e; exact h1
    · have := ih (by omega) (by omega)
      omega

theorem ig_append_left {a b : List Int} {j : Nat} (h : j < a.length) : ig (a ++ b) j = ig a j := by simp [ig, List.getElem?_append, h]
theorem ig_append_here (a : List Int) (x : Int) : ig (a ++ [x]) a.length = x := by simp [ig]

theorem Asc.snoc {l : List Int} (h : Asc l) {x : Int} (hx : ∀ y ∈ l, y < x) : Asc (l ++ [x]) := by
  intro i i1 i2
  rw [List.length_append, List.length_singleton] at i2
  by_cases e : i = l.length
  · subst e
    rw [ig_append_here, ig_append_left (by omega)]
    exact hx _ (ig_mem (by omega))
  · rw [ig_append_left (by omega), ig_append_left (by omega)]
    exact h i i1 (by omega)

/-- What the merge keeps. -/
structure Mrg (l c : List Int) (i k : Nat) (r : List Int) : Prop where
  hi : i ≤ l.length
  hk : k ≤ c.length
  al : Asc l
  ac : Asc c
  asc : Asc r
  sub : ∀ x ∈ r, x ∈ l ∨ x ∈ c
  len : r.length + (c.take k).countP (fun x => decide (x ∈ l.take i)) = i + k
  b1 : i < l.length → ∀ x ∈ r, x < ig l i
  b2 : k < c.length → ∀ x ∈ r, x < ig c k
  m1 : ∀ x ∈ l.take i, x ∈ r
  m2 : ∀ x ∈ c.take k, x ∈ r

theorem Mrg.init {l c : List Int} (al : Asc l) (ac : Asc c) : Mrg l c 0 0 [] where
  hi := Nat.zero_le _
  hk := Nat.zero_le _
  al := al
  ac := ac
  asc := by intro i a b; simp at b
  sub := by intro x hx; cases hx
  len := by simp
  b1 := by intro _ x hx; cases hx
  b2 := by intro _ x hx; cases hx
  m1 := by intro x hx; simp at hx
  m2 := by intro x hx; simp at hx

theorem take_snoc {l : List Int} {i : Nat} (h : i < l.length) : l.take (i + 1) = l.take i ++ [ig l i] := by
  rw [List.take_add_one, ig_get h]; rfl

theorem mem_snoc {l : List Int} {x y : Int} : x ∈ l ++ [y] ↔ x ∈ l ∨ x = y := by simp

theorem Mrg.left {l c : List Int} {i k : Nat} {r : List Int} (h : Mrg l c i k r) (hi : i < l.length) (hc : k < c.length → ig l i < ig c k) : Mrg l c (i + 1) k (r ++ [ig l i]) := by
  have hb := h.b1 hi
  refine ⟨hi, h.hk, h.al, h.ac, h.asc.snoc hb, ?_, ?_, ?_, ?_, ?_, ?_⟩
  · intro x hx
    rcases mem_snoc.1 hx with hx | rfl
    · exact h.sub x hx
    · exact .inl (ig_mem hi)
  · have e : (c.take k).countP (fun x => decide (x ∈ l.take (i + 1))) = (c.take k).countP (fun x => decide (x ∈ l.take i)) := by
      apply List.countP_congr
      intro x hx
      have hne : x ≠ ig l i := by have := hb x (h.m2 x hx); omega
      rw [take_snoc hi]
      simp [hne]
    have := h.len
    rw [e, List.length_append, List.length_singleton]
    omega
  · intro h2 x hx
    have := h.al.lt (show i < i + 1 by omega) h2
    rcases mem_snoc.1 hx with hx | rfl
    · have := hb x hx; omega
    · exact this
  · intro h2 x hx
    rcases mem_snoc.1 hx with hx | rfl
    · exact h.b2 h2 x hx
    · exact hc h2
  · intro x hx
    rw [take_snoc hi] at hx
    rcases mem_snoc.1 hx with hx | rfl
    · exact mem_snoc.2 (.inl (h.m1 x hx))
    · exact mem_snoc.2 (.inr rfl)
  · intro x hx
    exact mem_snoc.2 (.inl (h.m2 x hx))

theorem Mrg.right {l c : List Int} {i k : Nat} {r : List Int} (h : Mrg l c i k r) (hk : k < c.length) (hc : i < l.length → ig c k < ig l i) : Mrg l c i (k + 1) (r ++ [ig c k]) := by
  have hb := h.b2 hk
  refine ⟨h.hi, hk, h.al, h.ac, h.asc.snoc hb, ?_, ?_, ?_, ?_, ?_, ?_⟩
  · intro x hx
    rcases mem_snoc.1 hx with hx | rfl
    · exact h.sub x hx
    · exact .inr (ig_mem hk)
  · have hn : ig c k ∉ l.take i := fun hm => by have := hb _ (h.m1 _ hm); omega
    have := h.len
    rw [take_snoc hk, List.countP_append, List.length_append, List.length_singleton, List.countP_singleton]
    simp [hn]
    omega
  · intro h2 x hx
    rcases mem_snoc.1 hx with hx | rfl
    · exact h.b1 h2 x hx
    · exact hc h2
  · intro h2 x hx
    have := h.ac.lt (show k < k + 1 by omega) h2
    rcases mem_snoc.1 hx with hx | rfl
    · have := hb x hx; omega
    · exact this
  · intro x hx
    exact mem_snoc.2 (.inl (h.m1 x hx))
  · intro x hx
    rw [take_snoc hk] at hx
    rcases mem_snoc.1 hx with hx | rfl
    · exact mem_snoc.2 (.inl (h.m2 x hx))
    · exact mem_snoc.2 (.inr rfl)

theorem Mrg.both {l c : List Int} {i k : Nat} {r : List Int} (h : Mrg l c i k r) (hi : i < l.length) (hk : k < c.length) (he : ig l i = ig c k) : Mrg l c (i + 1) (k + 1) (r ++ [ig c k]) := by
  have hb := h.b2 hk
  refine ⟨hi, hk, h.al, h.ac, h.asc.snoc hb, ?_, ?_, ?_, ?_, ?_, ?_⟩
  · intro x hx
    rcases mem_snoc.1 hx with hx | rfl
    · exact h.sub x hx
    · exact .inr (ig_mem hk)
  · have e : (c.take k).countP (fun x => decide (x ∈ l.take (i + 1))) = (c.take k).countP (fun x => decide (x ∈ l.take i)) := by
      apply List.countP_congr
      intro x hx
      have hne : x ≠ ig l i := by have := hb x (h.m2 x hx); omega
      rw [take_snoc hi]
      simp [hne]
    have hm : ig c k ∈ l.take (i + 1) := by rw [take_snoc hi]; exact mem_snoc.2 (.inr he.symm)
    have := h.len
    rw [take_snoc hk, List.countP_append, e, List.length_append, List.length_singleton, List.countP_singleton]
    simp [hm]
    omega
  · intro h2 x hx
    have := h.al.lt (show i < i + 1 by omega) h2
    rcases mem_snoc.1 hx with hx | rfl
    · have := hb x hx; omega
    · omega
  · intro h2 x hx
    have := h.ac.lt (show k < k + 1 by omega) h2
    rcases mem_snoc.1 hx with hx | rfl
    · have := hb x hx; omega
    · exact this
  · intro x hx
    rw [take_snoc hi] at hx
    rcases mem_snoc.1 hx with hx | rfl
    · exact mem_snoc.2 (.inl (h.m1 x hx))
    · exact mem_snoc.2 (.inr he)
  · intro x hx
    rw [take_snoc hk] at hx
    rcases mem_snoc.1 hx with hx | rfl
    · exact mem_snoc.2 (.inl (h.m2 x hx))
    · exact mem_snoc.2 (.inr rfl)

/-- how many of c lie in l -/
def common (l c : List Int) : Nat := c.countP (fun x => decide (x ∈ l))

theorem Mrg.done {l c : List Int} {r : List Int} (h : Mrg l c l.length c.length r) : Asc r ∧ (∀ x ∈ r, x ∈ l ∨ x ∈ c) ∧ r.length + common l c = l.length + c.length := by
  have := h.len
  rw [List.take_length, List.take_length] at this
  exact ⟨h.asc, h.sub, this⟩

/-! ### the search by halves -/
/-- x, if it lies in l, lies from lo on and ahead of hi -/
def Sch (l : List Int) (x : Int) (lo hi : Nat) : Prop := lo ≤ hi ∧ hi ≤ l.length ∧ (∀ j, j < lo → ig l j < x) ∧ (∀ j, hi ≤ j → j < l.length → x < ig l j)

theorem Sch.init (l : List Int) (x : Int) : Sch l x 0 l.length := ⟨Nat.zero_le _, Nat.le_refl _, fun j h => by omega, fun j h1 h2 => by omega⟩
theorem Sch.up {l : List Int} {x : Int} {lo hi m : Nat} (h : Sch l x lo hi) (al : Asc l) (h1 : lo ≤ m) (h2 : m < hi) (hx : ig l m < x) : Sch l x (m + 1) hi := by
  obtain ⟨a, b, c, d⟩ := h
  refine ⟨h2, b, fun j hj => ?_, d⟩
  by_cases e : j = m
  · subst e; exact hx
  · have := al.lt (show j < m by omega) (by omega); omega
theorem Sch.down {l : List Int} {x : Int} {lo hi m : Nat} (h : Sch l x lo hi) (al : Asc l) (h1 : lo ≤ m) (h2 : m < hi) (hx : x < ig l m) : Sch l x lo m := by
  obtain ⟨a, b, c, d⟩ := h
  refine ⟨h1, by omega, c, fun j hj hl => ?_⟩
  by_cases e : j = m
  · subst e; exact hx
  · have := al.lt (show m < j by omega) hl; omega
theorem Sch.none {l : List Int} {x : Int} {lo hi : Nat} (h : Sch l x lo hi) (he : ¬ lo < hi) : x ∉ l := by
  obtain ⟨a, b, c, d⟩ := h
  intro hx
  obtain ⟨j, hj, e⟩ := mem_ig hx
  by_cases hjl : j < lo
  · have := c j hjl; omega
  · have := d j (by omega) hj; omega

end Go.Proofs.Qxb6601655a
