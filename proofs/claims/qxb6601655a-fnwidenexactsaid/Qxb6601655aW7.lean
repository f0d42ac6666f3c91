import Derived.Test.Qxb6601655aW2
import Derived.Test.Qxb6601655aW4
import Derived.Test.Qxb6601655aNav
namespace Go.Proofs.Qxb6601655a
set_option linter.unusedSimpArgs false
set_option linter.unusedVariables false
open Go.RowKit
attribute [local go_sem] Try.eq45 Try.eq46 Try.eq53 Try.ne45


/-- What widen leaves where it makes the layout anew. -/
structure WidenNew (W0 w' : World) (bl : Nat) (v0 v1 vc : Value) (nd : Nat) (lz cz : List Int) (pg : Option Addr) : Prop where
  but : But (fun k => k = bl) W0 w'
  lay : w'.heap[bl]? = some (.cells #[v0, v1, vc, .pointer pg] 73 (0, 0))
  row : ∃ r : List Int, Asc r ∧ (∀ x ∈ r, x ∈ lz ∨ x ∈ cz) ∧ r.length + common lz cz = lz.length + cz.length ∧
    ((nd < 2 * r.length ∧ pg = none) ∨ (2 * r.length ≤ nd ∧ ∃ g ar cr gr, pg = some ⟨g, 0, none⟩ ∧ W0.heap.size ≤ g ∧ w'.heap[g]? = some (.cells #[.slice ar r.length cr, v1, .slice none 0 0, .pointer none] 73 (0, 0)) ∧ Ints w' ar r.length gr 0 r))

theorem stored23 {w : World} {bl : Nat} {v0 v1 v2 v3 : Value} (L : w.heap[bl]? = some (.cells #[v0, v1, v2, v3] 73 (0, 0))) (x y : Value) :
    ((w.setCell ⟨bl, 2, none⟩ x).setCell ⟨bl, 3, none⟩ y).heap[bl]? = some (.cells #[v0, v1, x, y] 73 (0, 0)) := by
  have h1 := heap_setCell_same w bl 2 _ 73 x L
  have h2 := heap_setCell_same _ bl 3 _ 73 y h1
  rw [h2]
  rfl

theorem but23 {W0 w : World} {bl : Nat} (h : But (fun k => k = bl) W0 w) (x y : Value) : But (fun k => k = bl) W0 ((w.setCell ⟨bl, 2, none⟩ x).setCell ⟨bl, 3, none⟩ y) :=
  (h.setCell (p := ⟨bl, 2, none⟩) (.inl rfl) x).setCell (p := ⟨bl, 3, none⟩) (.inl rfl) y

theorem other23 {w : World} {bl g : Nat} (hne : g ≠ bl) (x y : Value) : ((w.setCell ⟨bl, 2, none⟩ x).setCell ⟨bl, 3, none⟩ y).heap[g]? = w.heap[g]? := by
  rw [Below.heap_setCell _ _ _ _ (by simpa using hne), Below.heap_setCell _ _ _ _ (by simpa using hne)]

set_option maxRecDepth 100000 in
set_option maxHeartbeats 3200000 in
theorem f41_tail5 {u2 u3 u4 u6 u7 u8 u9 u10 u11 u12 u13 u14 u15 u16 u17 u18 u19 u20 u21 u22 u23 u24 u25 u26 u27 u28 u29 u30 u31 u32 u33 u34 u35 u36 u37 u38 u39 u40 u41 u42 u43 u44 u45 u46 u47 u48 u49 u50 u51 u52 u53 u54 u55 u56 u57 u58 u59 u60 u61 u62 u63 u64 u65 u66 u67 u68 u69 u70 u71 u72 u73 u74 u75 u76 u77 u78 u79 u80 u81 u82 u83 u84 u85 u86 u87 u88 u89 u90 u91 u92 u93 u94 u95 u96 u97 u98 u99 u100 u101 u102 u103 u104 u105 u106 u107 u108 u109 u110 u111 u112 u113 u114 u115 u116 u117 u118 u119 u120 u121 u122 u123 u124 u125 : Value} {W0 w : World} {bl nl cl nd cd nw cw bc bw ow : Nat} {ac ad aw p0 : Option Addr} {vb : Value} {lz cz : List Int} {v : Value} {r : List Int} {cap : Nat} {cs : List Value}
    (L : W0.heap[bl]? = some (.cells #[.slice ac nl cl, .slice ad nd cd, vb, .pointer p0] 73 (0, 0))) (hW : Below W0.heap.size W0 w) (O : Own w 3 1 v r.length cap cs) (T : cs.take r.length = r.map (Value.int .i64)) (hg : ∀ g, v.ownBlock = some g → W0.heap.size ≤ g) (asc : Asc r) (sub : ∀ x ∈ r, x ∈ lz ∨ x ∈ cz) (len : r.length + common lz cz = lz.length + cz.length) (br : (r.length : Int) ≤ 2097152) :
    Code.wp Try.prog (dropSeq 5 (Try.f41.body.getD .skip)) (bodyPost Try.prog Try.f41 fun e w' => ∃ pg, e = .returned (.pointer pg) ∧ WidenNew W0 w' bl (.slice ac nl cl) (.slice ad nd cd) (.slice aw nw cw) nd lz cz pg)
      ⟨List.toArray ((.pointer (some ⟨bl, 0, none⟩)) :: (.slice aw nw cw) :: u2 :: u3 :: u4 :: v :: u6 :: u7 :: u8 :: u9 :: u10 :: u11 :: u12 :: u13 :: u14 :: u15 :: u16 :: u17 :: u18 :: u19 :: u20 :: u21 :: u22 :: u23 :: u24 :: u25 :: u26 :: u27 :: u28 :: u29 :: u30 :: u31 :: u32 :: u33 :: u34 :: u35 :: u36 :: u37 :: u38 :: u39 :: u40 :: u41 :: u42 :: u43 :: u44 :: u45 :: u46 :: u47 :: u48 :: u49 :: u50 :: u51 :: u52 :: u53 :: u54 :: u55 :: u56 :: u57 :: u58 :: u59 :: u60 :: u61 :: u62 :: u63 :: u64 :: u65 :: u66 :: u67 :: u68 :: u69 :: u70 :: u71 :: u72 :: u73 :: u74 :: u75 :: u76 :: u77 :: u78 :: u79 :: u80 :: u81 :: u82 :: u83 :: u84 :: u85 :: u86 :: u87 :: u88 :: u89 :: u90 :: u91 :: u92 :: u93 :: u94 :: u95 :: u96 :: u97 :: u98 :: u99 :: u100 :: u101 :: u102 :: u103 :: u104 :: u105 :: u106 :: u107 :: u108 :: u109 :: u110 :: u111 :: u112 :: u113 :: u114 :: u115 :: u116 :: u117 :: u118 :: u119 :: u120 :: u121 :: u122 :: u123 :: u124 :: u125 :: []), []⟩ w := by
  obtain ⟨ar, gr, rfl, hI, _, hgr⟩ := Ints.own O T rfl
  have hbl : bl < W0.heap.size := (Array.getElem?_eq_some_iff.1 L).1
  have L1 := (hW.block bl hbl).trans L
  have hne : 0 < r.length → gr ≠ bl := fun hpos => by
    rcases hgr with h | h
    · have := hg gr h; omega
    · omega
  have q1 : w.cell? ⟨bl, 1, none⟩ = some (.slice ad nd cd) := by rw [cell_of_row w bl 1 _ _ _ L1]; rfl
  by_cases h2 : nd < 2 * r.length
  · have q2 : w.cell? ⟨bl, 2, none⟩ = some vb := by rw [cell_of_row w bl 2 _ _ _ L1]; rfl
    have q3 : w.cell? ⟨bl, 3, none⟩ = some (.pointer p0) := by rw [cell_of_row w bl 3 _ _ _ L1]; rfl
    have z2 : w.frozen? ⟨bl, 2, none⟩ = false := frozen_of_row w bl 2 _ _ L1
    have z3 : w.frozen? ⟨bl, 3, none⟩ = false := frozen_of_row w bl 3 _ _ L1
    have HL : Hid (w.heap[bl]? = _) := L1
    have HO : Hid _ := O
    have HI : Hid _ := hI
    have HT : Hid _ := T
    have HS : Hid _ := sub
    have HA : Hid (Asc r) := asc
    have HG : Hid _ := hg
    have HN : Hid _ := len
    have HNE : Hid _ := hne
    clear L L1 O T sub asc hI hg len hgr hne
    go_step
    refine wp_drop 5 _ (by kernel_rfl) (fun K hK => ?_)
    conv => arg 2; whnf
    go_wp2_with (go_at_call 49; go_must (refine (newLayout_nil _ _ _ _ _ _ _ (by omega) h2).mono ?_); rintro e wx ⟨rfl, hwx⟩; subst hwx)
    conv => arg 2; whnf
    go_wp2
    go_ret
    exact ⟨none, rfl, but23 (But.of_below hW) _ _, stored23 HL.out _ _, r, HA.out, HS.out, HN.out, .inl ⟨h2, rfl⟩⟩
  · have h2' : 2 * r.length ≤ nd := by omega
    have hb1 : Below w.heap.size w (w.alloc (.cells #[.slice ar r.length cap, .slice ad nd cd, .slice none 0 0, .pointer none] 73)) := (Below.refl _ _).alloc (Nat.le_refl _) _
    have hlw : bl < w.heap.size := by have := hW.size; omega
    have L2 := (hb1.block bl hlw).trans L1
    have hnew : (w.alloc (.cells #[.slice ar r.length cap, .slice ad nd cd, .slice none 0 0, .pointer none] 73)).heap[w.heap.size]? = some (.cells #[.slice ar r.length cap, .slice ad nd cd, .slice none 0 0, .pointer none] 73 (0, 0)) := Go.heap_alloc_new _ _
    have hI2 := hI.below hb1
    have hW2 := hW.trans (hb1.mono hW.size)
    have hws := hW.size
    have HL : Hid _ := L2
    have HO : Hid _ := O
    have HI : Hid _ := hI2
    have HT : Hid _ := T
    have HS : Hid _ := sub
    have HA : Hid (Asc r) := asc
    have HG : Hid _ := hg
    have HN : Hid _ := len
    have HW : Hid _ := hnew
    have HNE : Hid _ := hne
    have q2 : ∀ wx, wx = w.alloc (.cells #[.slice ar r.length cap, .slice ad nd cd, .slice none 0 0, .pointer none] 73) → wx.cell? ⟨bl, 2, none⟩ = some vb ∧ wx.cell? ⟨bl, 3, none⟩ = some (.pointer p0) ∧ wx.frozen? ⟨bl, 2, none⟩ = false ∧ wx.frozen? ⟨bl, 3, none⟩ = false ∧ wx.heap[bl]? = some (.cells #[.slice ac nl cl, .slice ad nd cd, vb, .pointer p0] 73 (0, 0)) ∧ wx.heap[w.heap.size]? = some (.cells #[.slice ar r.length cap, .slice ad nd cd, .slice none 0 0, .pointer none] 73 (0, 0)) ∧ Ints wx ar r.length gr 0 r ∧ Below W0.heap.size W0 wx := by
      rintro wx rfl
      exact ⟨by rw [cell_of_row _ bl 2 _ _ _ L2]; rfl, by rw [cell_of_row _ bl 3 _ _ _ L2]; rfl, frozen_of_row _ bl 2 _ _ L2, frozen_of_row _ bl 3 _ _ L2, L2, hnew, hI2, hW2⟩
    have HQ : Hid _ := q2
    clear L L1 L2 O T sub asc hI hI2 hg len hgr hnew q2 hb1 hW2 hne
    go_step
    refine wp_drop 5 _ (by kernel_rfl) (fun K hK => ?_)
    conv => arg 2; whnf
    go_wp2_with (go_at_call 49; go_must (refine (newLayout_new _ _ _ _ _ _ _ (by omega) h2').mono ?_); rintro e wx ⟨rfl, hwx⟩; obtain ⟨p2, p3, z2, z3, G1, G2, G3, G4⟩ := HQ.out wx hwx; have HG1 : Hid _ := G1; have HG2 : Hid _ := G2; have HG3 : Hid (Ints wx ar r.length gr 0 r) := G3; have HG4 : Hid _ := G4; clear G1 G2 G3 G4 HQ hwx)
    conv => arg 2; whnf
    go_wp2
    go_ret
    have nb : w.heap.size ≠ bl := by omega
    refine ⟨_, rfl, but23 (But.of_below HG4.out) _ _, stored23 HG1.out _ _, r, HA.out, HS.out, HN.out, .inr ⟨h2', w.heap.size, ar, cap, gr, rfl, hws, (other23 nb _ _).trans HG2.out, ?_⟩⟩
    exact HG3.out.but (but23 (But.refl _ _) _ _) HNE.out

end Go.Proofs.Qxb6601655a
