/-
  A bottom-up merge sort over lists: what its loops keep. No Go in sight.
-/
import Derived.Test.Qxb6601457aPopOrd
namespace Go.Proofs.Qxb6601457a
set_option linter.unusedSimpArgs false
set_option linter.unusedVariables false

/-- the elements a .. b-1 -/
def seg (l : List Ent) (a b : Nat) : List Ent := (l.take b).drop a

theorem seg_at (l : List Ent) (a b k : Nat) : (seg l a b)[k]? = if a + k < b then l[a + k]? else none := by
  simp only [seg, List.getElem?_drop, List.getElem?_take]

theorem mem_seg {l : List Ent} {a b : Nat} {x : Ent} : x ∈ seg l a b ↔ ∃ k, a ≤ k ∧ k < b ∧ l[k]? = some x := by
  rw [List.mem_iff_getElem?]
  constructor
  · rintro ⟨k, hk⟩
    rw [seg_at] at hk
    split at hk
    · exact ⟨a + k, by omega, by assumption, hk⟩
    · cases hk
  · rintro ⟨k, h1, h2, h3⟩
    refine ⟨k - a, ?_⟩
    rw [seg_at, show a + (k - a) = k from by omega, if_pos h2, h3]

theorem seg_self (l : List Ent) {a b : Nat} (h : b ≤ a) : seg l a b = [] := by
  unfold seg
  rw [List.drop_eq_nil_iff, List.length_take]; omega

theorem seg_snoc {l : List Ent} {a b : Nat} {x : Ent} (h : a ≤ b) (hx : l[b]? = some x) : seg l a (b + 1) = seg l a b ++ [x] := by
  unfold seg
  have hb : b < l.length := (List.getElem?_eq_some_iff.1 hx).1
  rw [List.take_add_one, hx, List.drop_append_of_le_length (by rw [List.length_take]; omega)]
  rfl

theorem seg_cons {l : List Ent} {a b : Nat} {x : Ent} (h : a < b) (hx : l[a]? = some x) : seg l a b = x :: seg l (a + 1) b := by
  apply List.ext_getElem?
  intro k
  cases k with
  | zero => rw [seg_at, if_pos (by omega)]; simpa using hx
  | succ k =>
    rw [seg_at, List.getElem?_cons_succ, seg_at, show a + (k + 1) = a + 1 + k from by omega]

theorem seg_set {l : List Ent} {a b k : Nat} (x : Ent) (h : b ≤ k) : seg (l.set k x) a b = seg l a b := by
  apply List.ext_getElem?
  intro j
  rw [seg_at, seg_at]
  split
  · rw [List.getElem?_set_ne (by omega)]
  · rfl

theorem seg_set_before {l : List Ent} {a b k : Nat} (x : Ent) (h : k < a) : seg (l.set k x) a b = seg l a b := by
  apply List.ext_getElem?
  intro j
  rw [seg_at, seg_at, List.getElem?_set_ne (by omega)]

theorem seg_join (l : List Ent) {a b c : Nat} (h1 : a ≤ b) (h2 : b ≤ c) : seg l a c = seg l a b ++ seg l b c := by
  unfold seg
  have e : l.take c = l.take b ++ (l.take c).drop b := by
    have := List.take_append_drop b (l.take c)
    rw [List.take_take, Nat.min_eq_left h2] at this
    exact this.symm
  conv => lhs; rw [e]
  by_cases hb : b ≤ l.length
  · rw [List.drop_append_of_le_length (by rw [List.length_take]; omega)]
  · have : (l.take c).drop b = [] := by rw [List.drop_eq_nil_iff, List.length_take]; omega
    rw [this, List.append_nil, List.append_nil]

theorem seg_all (l : List Ent) : seg l 0 l.length = l := by simp [seg]

theorem seg_take (l : List Ent) (a b : Nat) : seg l a (min b l.length) = seg l a b := by
  apply List.ext_getElem?
  intro k
  rw [seg_at, seg_at]
  by_cases h : a + k < l.length
  · by_cases h2 : a + k < b
    · rw [if_pos (by omega), if_pos h2]
    · rw [if_neg (by omega), if_neg h2]
  · rw [if_neg (by omega)]
    split
    · rw [List.getElem?_eq_none (by omega)]
    · rfl

/-- What the merging loop keeps: k = i + j - mid. -/
structure MInv (src : List Ent) (lo mid hi i j : Nat) (dst dst0 : List Ent) : Prop where
  len : dst.length = src.length
  b1 : lo ≤ i
  b2 : i ≤ mid
  b3 : mid ≤ j
  b4 : j ≤ hi
  b5 : hi ≤ src.length
  s1 : srt (seg src lo mid)
  s2 : srt (seg src mid hi)
  bag : ∀ p, (seg dst lo (i + j - mid)).countP p = (seg src lo i).countP p + (seg src mid j).countP p
  sorted : srt (seg dst lo (i + j - mid))
  le1 : ∀ x ∈ seg dst lo (i + j - mid), ∀ y ∈ seg src i mid, klt y x = false
  le2 : ∀ x ∈ seg dst lo (i + j - mid), ∀ y ∈ seg src j hi, klt y x = false
  out : ∀ a b, b ≤ lo → seg dst a b = seg dst0 a b

theorem MInv.init {src dst : List Ent} {lo mid hi : Nat} (hl : dst.length = src.length) (h1 : lo ≤ mid) (h2 : mid ≤ hi) (h3 : hi ≤ src.length) (s1 : srt (seg src lo mid)) (s2 : srt (seg src mid hi)) : MInv src lo mid hi lo mid dst dst := by
  have e : seg dst lo (lo + mid - mid) = [] := seg_self _ (by omega)
  refine ⟨hl, Nat.le_refl _, h1, Nat.le_refl _, h2, h3, s1, s2, ?_, ?_, ?_, ?_, fun _ _ _ => rfl⟩
  · intro p; rw [e, seg_self _ (Nat.le_refl _), seg_self _ (Nat.le_refl _)]; rfl
  · rw [e]; exact List.Pairwise.nil
  · rw [e]; intro x hx; cases hx
  · rw [e]; intro x hx; cases hx

theorem srt_snoc {l : List Ent} {x : Ent} (h : srt l) (hx : ∀ y ∈ l, klt x y = false) : srt (l ++ [x]) := by
  unfold srt
  rw [List.pairwise_append]
  refine ⟨h, List.pairwise_singleton _ _, ?_⟩
  intro a ha b hb
  rw [List.mem_singleton] at hb
  subst hb
  exact hx a ha

theorem seg_srt_at {l : List Ent} {a b i k : Nat} (h : srt (seg l a b)) (hai : a ≤ i) (hik : i < k) (hk : k < b) {x y : Ent} (hx : l[i]? = some x) (hy : l[k]? = some y) : klt y x = false := by
  refine srt_get h (i := i - a) (j := k - a) (by omega) ?_ ?_
  · rw [seg_at, show a + (i - a) = i from by omega, if_pos (by omega), hx]
  · rw [seg_at, show a + (k - a) = k from by omega, if_pos hk, hy]

theorem MInv.left {src dst dst0 : List Ent} {lo mid hi i j : Nat} (h : MInv src lo mid hi i j dst dst0) (hi' : i < mid) {x : Ent} (hx : src[i]? = some x) (hc : ∀ y, j < hi → src[j]? = some y → klt y x = false) :
    MInv src lo mid hi (i + 1) j (dst.set (i + j - mid) x) dst0 := by
  have hk : i + j - mid < dst.length := by have := h.len; have := h.b5; have := h.b4; have := h.b3; omega
  have hb1 := h.b1
  have hb3 := h.b3
  have e1 : i + 1 + j - mid = (i + j - mid) + 1 := by omega
  have e2 : seg (dst.set (i + j - mid) x) lo ((i + j - mid) + 1) = seg dst lo (i + j - mid) ++ [x] := by
    rw [seg_snoc (by omega) (List.getElem?_set_self hk), seg_set _ (Nat.le_refl _)]
  refine ⟨by rw [List.length_set]; exact h.len, by omega, by omega, hb3, h.b4, h.b5, h.s1, h.s2, ?_, ?_, ?_, ?_, ?_⟩
  · intro p
    rw [e1, e2, seg_snoc hb1 hx, List.countP_append, List.countP_append, h.bag p]
    omega
  · rw [e1, e2]
    refine srt_snoc h.sorted fun y hy => h.le1 y hy x ?_
    exact mem_seg.2 ⟨i, Nat.le_refl _, hi', hx⟩
  · rw [e1, e2]
    intro z hz y hy
    obtain ⟨k, k1, k2, k3⟩ := mem_seg.1 hy
    rcases List.mem_append.1 hz with hz | hz
    · exact h.le1 z hz y (mem_seg.2 ⟨k, by omega, k2, k3⟩)
    · rw [List.mem_singleton] at hz; subst hz
      exact seg_srt_at h.s1 hb1 (show i < k by omega) k2 hx k3
  · rw [e1, e2]
    intro z hz y hy
    rcases List.mem_append.1 hz with hz | hz
    · exact h.le2 z hz y hy
    · rw [List.mem_singleton] at hz; subst hz
      obtain ⟨k, k1, k2, k3⟩ := mem_seg.1 hy
      have hj : j < src.length := by have := h.b5; omega
      have hc' := hc src[j] (by omega) (List.getElem?_eq_getElem hj)
      by_cases hkj : k = j
      · subst hkj
        exact hc y (by omega) k3
      · exact kle_trans hc' (seg_srt_at h.s2 hb3 (show j < k by omega) k2 (List.getElem?_eq_getElem hj) k3)
  · intro a b hab
    rw [seg_set _ (by omega)]
    exact h.out a b hab

theorem MInv.right {src dst dst0 : List Ent} {lo mid hi i j : Nat} (h : MInv src lo mid hi i j dst dst0) (hj' : j < hi) {x : Ent} (hx : src[j]? = some x) (hc : ∀ y, i < mid → src[i]? = some y → klt x y = true) :
    MInv src lo mid hi i (j + 1) (dst.set (i + j - mid) x) dst0 := by
  have hk : i + j - mid < dst.length := by have := h.len; have := h.b5; have := h.b2; have := h.b3; omega
  have hb1 := h.b1
  have hb3 := h.b3
  have e1 : i + (j + 1) - mid = (i + j - mid) + 1 := by omega
  have e2 : seg (dst.set (i + j - mid) x) lo ((i + j - mid) + 1) = seg dst lo (i + j - mid) ++ [x] := by
    rw [seg_snoc (by omega) (List.getElem?_set_self hk), seg_set _ (Nat.le_refl _)]
  refine ⟨by rw [List.length_set]; exact h.len, hb1, h.b2, by omega, by omega, h.b5, h.s1, h.s2, ?_, ?_, ?_, ?_, ?_⟩
  · intro p
    rw [e1, e2, seg_snoc hb3 hx, List.countP_append, List.countP_append, h.bag p]
    omega
  · rw [e1, e2]
    refine srt_snoc h.sorted fun y hy => h.le2 y hy x ?_
    exact mem_seg.2 ⟨j, Nat.le_refl _, hj', hx⟩
  · rw [e1, e2]
    intro z hz y hy
    rcases List.mem_append.1 hz with hz | hz
    · exact h.le1 z hz y hy
    · rw [List.mem_singleton] at hz; subst hz
      obtain ⟨k, k1, k2, k3⟩ := mem_seg.1 hy
      have hi2 : i < src.length := by have := h.b5; have := h.b4; omega
      have hc' := klt_asymm (hc src[i] (by omega) (List.getElem?_eq_getElem hi2))
      by_cases hkj : k = i
      · subst hkj
        exact klt_asymm (hc y (by omega) k3)
      · exact kle_trans hc' (seg_srt_at h.s1 hb1 (show i < k by omega) k2 (List.getElem?_eq_getElem hi2) k3)
  · rw [e1, e2]
    intro z hz y hy
    obtain ⟨k, k1, k2, k3⟩ := mem_seg.1 hy
    rcases List.mem_append.1 hz with hz | hz
    · exact h.le2 z hz y (mem_seg.2 ⟨k, by omega, k2, k3⟩)
    · rw [List.mem_singleton] at hz; subst hz
      exact seg_srt_at h.s2 hb3 (show j < k by omega) k2 hx k3
  · intro a b hab
    rw [seg_set _ (by omega)]
    exact h.out a b hab

/-- Every block of width w is sorted. -/
def BS (l : List Ent) (w : Nat) : Prop := ∀ c, srt (seg l (c * w) ((c + 1) * w))

theorem BS.one (l : List Ent) : BS l 1 := by
  intro c
  have e : (seg l (c * 1) ((c + 1) * 1)).length ≤ 1 := by
    unfold seg; rw [List.length_drop, List.length_take]; omega
  unfold srt
  match hq : seg l (c * 1) ((c + 1) * 1), e with
  | [], _ => exact List.Pairwise.nil
  | [x], _ => exact List.pairwise_singleton _ _
  | x :: y :: t, e => simp at e

/-- What the loop over the blocks keeps: c blocks of width 2 * w are done. -/
structure BInv (src : List Ent) (w c : Nat) (dst : List Ent) : Prop where
  len : dst.length = src.length
  sorted : ∀ k, k < c → srt (seg dst (k * (2 * w)) ((k + 1) * (2 * w)))
  bag : ∀ p, (seg dst 0 (c * (2 * w))).countP p = (seg src 0 (c * (2 * w))).countP p

theorem BInv.init {src dst : List Ent} (w : Nat) (hl : dst.length = src.length) : BInv src w 0 dst :=
  ⟨hl, fun k hk => by omega, fun p => by rw [Nat.zero_mul, seg_self _ (Nat.le_refl _), seg_self _ (Nat.le_refl _)]⟩

theorem BInv.blocks {src : List Ent} {w c : Nat} (hs : BS src w) {mid hi : Nat} (hm : mid = min (c * (2 * w) + w) src.length) (hh : hi = min (c * (2 * w) + 2 * w) src.length) : srt (seg src (c * (2 * w)) mid) ∧ srt (seg src mid hi) := by
  have e0 : c * (2 * w) = 2 * c * w := by rw [Nat.mul_comm 2 w, ← Nat.mul_assoc, Nat.mul_comm (c * w) 2, Nat.mul_assoc]
  have e1 : (2 * c + 1) * w = c * (2 * w) + w := by rw [Nat.add_mul, Nat.one_mul, e0]
  have e2 : (2 * c + 1 + 1) * w = c * (2 * w) + 2 * w := by rw [Nat.add_mul, Nat.one_mul, e1]; omega
  constructor
  · have := hs (2 * c)
    rw [e1, ← e0] at this
    rw [hm, seg_take]
    exact this
  · by_cases hle : c * (2 * w) + w ≤ src.length
    · have := hs (2 * c + 1)
      rw [e1, e2] at this
      rw [hm, hh, seg_take, Nat.min_eq_left hle]
      exact this
    · rw [seg_self _ (by omega)]
      exact List.Pairwise.nil

theorem BInv.next {src dst dst' : List Ent} {w c mid hi : Nat} (h : BInv src w c dst) (hlo : c * (2 * w) < src.length) (hm : mid = min (c * (2 * w) + w) src.length) (hh : hi = min (c * (2 * w) + 2 * w) src.length)
    (g : MInv src (c * (2 * w)) mid hi mid hi dst' dst) : BInv src w (c + 1) dst' := by
  have e2 : (c + 1) * (2 * w) = c * (2 * w) + 2 * w := by rw [Nat.add_mul, Nat.one_mul]
  have ek : mid + hi - mid = hi := by omega
  have hsorted := g.sorted
  have hbag := g.bag
  rw [ek] at hsorted
  simp only [ek] at hbag
  have hseg : ∀ l : List Ent, l.length = src.length → ∀ a, seg l a ((c + 1) * (2 * w)) = seg l a hi := by
    intro l hl a
    rw [e2, hh, ← hl, seg_take]
  refine ⟨g.len, ?_, ?_⟩
  · intro k hk
    by_cases hkc : k = c
    · subst hkc
      rw [hseg dst' g.len]
      exact hsorted
    · have hle : (k + 1) * (2 * w) ≤ c * (2 * w) := Nat.mul_le_mul_right _ (by omega)
      rw [g.out _ _ hle]
      exact h.sorted k (by omega)
  · intro p
    rw [hseg dst' g.len, hseg src rfl]
    have b1 := g.b2
    have b2 := g.b4
    have l1 : c * (2 * w) ≤ hi := by omega
    rw [seg_join dst' (Nat.zero_le _) l1, seg_join src (Nat.zero_le _) l1, List.countP_append, List.countP_append, hbag p, g.out 0 _ (Nat.le_refl _), h.bag p]
    have l2 : c * (2 * w) ≤ mid := by omega
    have l3 : mid ≤ hi := by omega
    rw [seg_join src l2 l3, List.countP_append]

theorem BInv.done {src dst : List Ent} {w c : Nat} (h : BInv src w c dst) (hc : src.length ≤ c * (2 * w)) : SB dst src ∧ BS dst (2 * w) := by
  have hall : ∀ l : List Ent, l.length = src.length → seg l 0 (c * (2 * w)) = l := by
    intro l hl
    rw [← seg_take, Nat.min_eq_right (by omega), seg_all]
  constructor
  · intro p
    have := h.bag p
    rw [hall dst h.len, hall src rfl] at this
    exact this
  · intro k
    by_cases hk : k < c
    · exact h.sorted k hk
    · have hle : c * (2 * w) ≤ k * (2 * w) := Nat.mul_le_mul_right _ (by omega)
      rw [← seg_take, seg_self _ (by have := h.len; omega)]
      exact List.Pairwise.nil

theorem BS.done {l : List Ent} {w : Nat} (h : BS l w) (hw : l.length ≤ w) : srt l := by
  have := h 0
  rw [Nat.zero_mul, Nat.zero_add, Nat.one_mul, ← seg_take, Nat.min_eq_right hw, seg_all] at this
  exact this

end Go.Proofs.Qxb6601457a
