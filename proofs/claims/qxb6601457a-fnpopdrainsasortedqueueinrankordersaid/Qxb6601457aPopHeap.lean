/-
  A binary heap of entries in a list: what sinking the last entry from the top keeps. No Go in sight.
-/
import Derived.Test.Qxb6601457aPopSort
namespace Go.Proofs.Qxb6601457a
set_option linter.unusedSimpArgs false
set_option linter.unusedVariables false

def rlt (a b : Ent) : Bool := llt (rank a) (rank b)
theorem rlt_trans {a b c : Ent} (h1 : rlt b a = false) (h2 : rlt c b = false) : rlt c a = false := lle_trans (by rfl) (by rfl) h1 h2
theorem rlt_asymm {a b : Ent} (h : rlt a b = true) : rlt b a = false := llt_asymm h
theorem rlt_irrefl (a : Ent) : rlt a a = false := llt_irrefl _

/-- entry number j -/
def eg (l : List Ent) (j : Nat) : Ent := l.getD j ent0

theorem eg_get {l : List Ent} {j : Nat} (h : j < l.length) : l[j]? = some (eg l j) := by
  simp [eg, h]
theorem eg_set_same {l : List Ent} {j : Nat} (x : Ent) (h : j < l.length) : eg (l.set j x) j = x := by
  simp [eg, h]
theorem eg_set_ne {l : List Ent} {i j : Nat} (x : Ent) (h : i ≠ j) : eg (l.set i x) j = eg l j := by
  simp [eg, List.getElem?_set_ne h]

def Heap (l : List Ent) (n : Nat) : Prop := ∀ j, 1 ≤ j → j < n → rlt (eg l j) (eg l ((j - 1) / 2)) = false

theorem Heap.top {l : List Ent} {n : Nat} (h : Heap l n) : ∀ j, j < n → rlt (eg l j) (eg l 0) = false := by
  intro j
  induction j using Nat.strongRecOn with
  | ind j ih =>
    intro hj
    by_cases h0 : j = 0
    · subst h0; exact rlt_irrefl _
    · exact rlt_trans (ih ((j - 1) / 2) (by omega) (by omega)) (h j (by omega) hj)

structure HInv (h c : List Ent) (n i : Nat) (e : Ent) : Prop where
  lenh : h.length = n + 1
  len : c.length = n + 1
  he : e = eg h n
  hi : i ≤ n
  hin : i = 0 ∨ i < n
  last : eg c n = eg h n
  bag : SB ((c.take n).set i e) (h.drop 1)
  hp : ∀ j, 1 ≤ j → j < n → j ≠ i → (j - 1) / 2 ≠ i → rlt (eg c j) (eg c ((j - 1) / 2)) = false
  up : 1 ≤ i → rlt e (eg c ((i - 1) / 2)) = false
  dn : 1 ≤ i → ∀ j, 1 ≤ j → j < n → (j - 1) / 2 = i → rlt (eg c j) (eg c ((i - 1) / 2)) = false

theorem HInv.init {h : List Ent} {n : Nat} (hl : h.length = n + 1) (hp : Heap h (n + 1)) : HInv h h n 0 (eg h n) := by
  refine ⟨hl, hl, rfl, Nat.zero_le _, .inl rfl, rfl, ?_, fun j a b _ _ => hp j a (by omega), fun a => by omega, fun a => by omega⟩
  intro p
  match h, hl with
  | x :: t, hl =>
    have ht : t.length = n := by simpa using hl
    cases n with
    | zero =>
      have : t = [] := List.length_eq_zero_iff.1 ht
      subst this
      rfl
    | succ m =>
      have e1 : t = t.take m ++ [eg t m] := by
        have := List.take_append_drop m t
        have h2 : t.drop m = [eg t m] := by
          have hm : m < t.length := by omega
          rw [List.drop_eq_getElem_cons hm, List.drop_eq_nil_iff.2 (by omega)]
          congr 1
          have := eg_get hm
          rw [List.getElem?_eq_getElem hm] at this
          exact Option.some.inj this
        rw [h2] at this
        exact this.symm
      have e2 : eg (x :: t) (m + 1) = eg t m := by simp [eg]
      rw [e2, List.take_succ_cons, List.set_cons_zero, List.drop_succ_cons, List.drop_zero]
      conv => rhs; rw [e1]
      rw [List.countP_cons, List.countP_append, List.countP_singleton]

/-- the hole goes down to the better child -/
theorem HInv.move {h c : List Ent} {n i ch : Nat} {e : Ent} (H : HInv h c n i e) (h1 : (ch - 1) / 2 = i) (h2 : 1 ≤ ch) (h3 : ch < n) (hb : rlt (eg c ch) e = true) (hs : ∀ j, 1 ≤ j → j < n → (j - 1) / 2 = i → rlt (eg c j) (eg c ch) = false) :
    HInv h (c.set i (eg c ch)) n ch e := by
  have hic : i < ch := by omega
  have hlen := H.len
  refine ⟨H.lenh, by rw [List.length_set]; exact H.len, H.he, by omega, .inr h3, ?_, ?_, ?_, ?_, ?_⟩
  · rw [eg_set_ne _ (by omega)]; exact H.last
  · intro p
    rw [← H.bag p, List.take_set]
    have l1 : (c.take n).length = n := by rw [List.length_take]; omega
    have gi : (c.take n)[i]? = some (eg c i) := by rw [List.getElem?_take, if_pos (by omega)]; exact eg_get (by omega)
    have gc : (c.take n)[ch]? = some (eg c ch) := by rw [List.getElem?_take, if_pos (by omega)]; exact eg_get (by omega)
    generalize c.take n = L at *
    have li : i < L.length := by omega
    have lc : ch < L.length := by omega
    have qi : L[i] = eg c i := by rw [List.getElem?_eq_getElem li] at gi; exact Option.some.inj gi
    have qc : L[ch] = eg c ch := by rw [List.getElem?_eq_getElem lc] at gc; exact Option.some.inj gc
    have q2 : (L.set i (eg c ch))[ch]'(by rw [List.length_set]; exact lc) = eg c ch := by rw [List.getElem_set_ne (by omega), qc]
    rw [List.countP_set (by rw [List.length_set]; exact lc), List.countP_set li, List.countP_set li, q2, qi]
    have hcount : (if p (eg c i) = true then 1 else 0) ≤ L.countP p := by
      split
      · rename_i hpp
        exact List.countP_pos_iff.2 ⟨_, List.mem_of_getElem? gi, hpp⟩
      · omega
    omega
  · intro j j1 j2 j3 j4
    by_cases hji : j = i
    · subst hji
      rw [eg_set_same _ (by omega), eg_set_ne _ (by omega)]
      exact H.dn (by omega) ch h2 h3 h1
    · rw [eg_set_ne _ (by omega)]
      by_cases hpi : (j - 1) / 2 = i
      · rw [hpi, eg_set_same _ (by omega)]
        exact hs j j1 j2 hpi
      · rw [eg_set_ne _ (by omega)]
        exact H.hp j j1 j2 hji hpi
  · intro _
    rw [h1, eg_set_same _ (by omega)]
    exact rlt_asymm hb
  · intro _ j j1 j2 j3
    rw [h1, eg_set_same _ (by omega), eg_set_ne _ (by omega)]
    have := H.hp j j1 j2 (by omega) (by omega)
    rw [j3] at this
    exact this

/-- What pop leaves in the row: the first n are a heap and hold what was behind the top; the last cell is as it was. -/
structure Popped (h c : List Ent) (n : Nat) : Prop where
  lenh : h.length = n + 1
  len : c.length = n + 1
  last : eg c n = eg h n
  bag : SB (c.take n) (h.drop 1)
  heap : Heap c n

theorem HInv.done {h c : List Ent} {n i : Nat} {e : Ent} (H : HInv h c n i e) (hs : ∀ j, 1 ≤ j → j < n → (j - 1) / 2 = i → rlt (eg c j) e = false) : Popped h (c.set i e) n := by
  have hlen := H.len
  have hii := H.hi
  refine ⟨H.lenh, by rw [List.length_set]; exact H.len, ?_, ?_, ?_⟩
  · rcases H.hin with h0 | hlt
    · subst h0
      by_cases hn : n = 0
      · subst hn; rw [eg_set_same _ (by omega)]; exact H.he
      · rw [eg_set_ne _ (by omega)]; exact H.last
    · rw [eg_set_ne _ (by omega)]; exact H.last
  · rw [List.take_set]; exact H.bag
  · intro j j1 j2
    by_cases hji : j = i
    · subst hji
      rw [eg_set_same _ (by omega), eg_set_ne _ (by omega)]
      exact H.up j1
    · rw [eg_set_ne _ (by omega)]
      by_cases hpi : (j - 1) / 2 = i
      · rw [hpi, eg_set_same _ (by omega)]
        exact hs j j1 j2 hpi
      · rw [eg_set_ne _ (by omega)]
        exact H.hp j j1 j2 hji hpi

end Go.Proofs.Qxb6601457a
