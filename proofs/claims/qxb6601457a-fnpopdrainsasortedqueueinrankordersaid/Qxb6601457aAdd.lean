import Derived.Test.Qxb6601457aLeaf
import Derived.Test.Qxb6601457aRow
import Derived.Deep.RegionLaw
import Derived.Deep.DrawnRows
namespace Go.Proofs.Qxb6601457a
set_option linter.unusedSimpArgs false
set_option linter.unusedVariables false
open Go.RowKit
attribute [local go_sem] run_store_float
attribute [local go_sem ↓] Go.wp_at_zero Go.wp_at_succ

theorem Try.info45 : (Try.prog.info? 45).map (fun i => (i.zero, i.size, i.bytes)) = some (some (.agg #[.float .f64 0, .float .f64 0, .float .f64 0, .int .i64 0, .int .i64 0, .int .i64 0]), 6, 48) := by kernel_rfl
theorem Try.info3 : (Try.prog.info? 3).map (fun i => (i.zero, i.size, i.bytes)) = some (some (.int .i64 0), 1, 8) := by kernel_rfl

/-- What '(*ways).add' leaves. -/
structure AddPost (w : World) (pw : Nat) (vl vk : Value) (st : Int) (nl nk capk : Nat) (csl csk news : List Value) (gl capl' : Nat) (csl' : List Value) (gk capk' : Nat) (csk' : List Value) (w' : World) : Prop where
  ptr : w'.heap[pw]? = some (.cells #[.slice (some ⟨gl, 0, none⟩) (nl + 1) capl', .int .i64 st] 64 (0, 0))
  lab : Own w' 45 6 (.slice (some ⟨gl, 0, none⟩) (nl + 1) capl') (nl + 1) capl' csl'
  ltk : csl'.take ((nl + 1) * 6) = csl.take (nl * 6) ++ news
  kep : Own w' 3 1 (.slice (some ⟨gk, 0, none⟩) (nk + 1) capk') (nk + 1) capk' csk'
  ktk : csk'.take (nk + 1) = csk.take nk ++ [Value.int .i64 nl]
  but : But (fun k => k = pw ∨ vl.ownBlock = some k ∨ vk.ownBlock = some k) w w'
  old : ∀ g, vk.ownBlock = some g → w'.heap[g]? = some (.cells ((csk.take nk ++ [Value.int .i64 nl] ++ csk.drop (nk + 1)).take capk).toArray 3 (0, 0))
  lloc : vl.ownBlock = some gl ∨ w.heap.size ≤ gl
  kloc : vk.ownBlock = some gk ∨ w.heap.size ≤ gk

theorem add_post {w W1 wx wy : World} {pw : Nat} {vl vk : Value} {st : Int} {nl capl nk capk : Nat} {csl csk news : List Value} {gl capl' : Nat} {csl' : List Value} {gk capk' : Nat} {csk' : List Value} {o : Obj}
    (hp : w.heap[pw]? = some (.cells #[vl, .int .i64 st] 64 (0, 0))) (hl : Own w 45 6 vl nl capl csl) (hk : Own w 3 1 vk nk capk csk) (hB : Below w.heap.size w W1)
    (h1 : Appended W1 45 6 vl nl capl csl news gl capl' wx csl')
    (h2 : Appended ((wx.setCell ⟨pw, 0, none⟩ (.slice (some ⟨gl, 0, none⟩) (nl + 1) capl')).alloc o) 3 1 vk nk capk csk [.int .i64 nl] gk capk' wy csk') :
    AddPost w pw vl vk st nl nk capk csl csk news gl capl' csl' gk capk' csk' wy := by
  have lp : pw < w.heap.size := (Array.getElem?_eq_some_iff.1 hp).1
  have hp1 : W1.heap[pw]? = some (.cells #[vl, .int .i64 st] 64 (0, 0)) := (hB.block pw lp).trans hp
  have hk1 := hk.below hB
  have hl1 := hl.below hB
  have hpx : wx.heap[pw]? = some (.cells #[vl, .int .i64 st] 64 (0, 0)) := (h1.grow.block pw (Array.getElem?_eq_some_iff.1 hp1).1 (Ne.symm (hl1.ne hp1 (by decide)))).trans hp1
  have hklx : ∀ g, vk.ownBlock = some g → vl.ownBlock ≠ some g := fun g hg => hl1.ne (hk1.lt hg).2 (by decide)
  have hkx : Own wx 3 1 vk nk capk csk := hk1.move fun g hg => h1.grow.block g (hk1.lt hg).1 (Ne.symm (hklx g hg))
  have hp2 : (wx.setCell ⟨pw, 0, none⟩ (.slice (some ⟨gl, 0, none⟩) (nl + 1) capl')).heap[pw]? = some (.cells #[.slice (some ⟨gl, 0, none⟩) (nl + 1) capl', .int .i64 st] 64 (0, 0)) := by
    rw [heap_setCell_same wx pw 0 _ _ _ hpx]; rfl
  have hs2 : ∀ k, k ≠ pw → (wx.setCell ⟨pw, 0, none⟩ (.slice (some ⟨gl, 0, none⟩) (nl + 1) capl')).heap[k]? = wx.heap[k]? := fun k hk => Below.heap_setCell _ _ _ _ hk
  have sz2 : (wx.setCell ⟨pw, 0, none⟩ (.slice (some ⟨gl, 0, none⟩) (nl + 1) capl')).heap.size = wx.heap.size := by simp [World.setCell]
  have hlx := h1.own
  have hl2 : Own (wx.setCell ⟨pw, 0, none⟩ (.slice (some ⟨gl, 0, none⟩) (nl + 1) capl')) 45 6 (.slice (some ⟨gl, 0, none⟩) (nl + 1) capl') (nl + 1) capl' csl' :=
    hlx.move fun g hg => hs2 g (fun e => hlx.ne hpx (by decide) (e ▸ hg))
  have hk2 : Own (wx.setCell ⟨pw, 0, none⟩ (.slice (some ⟨gl, 0, none⟩) (nl + 1) capl')) 3 1 vk nk capk csk :=
    hkx.move fun g hg => hs2 g (fun e => hkx.ne hpx (by decide) (e ▸ hg))
  generalize hW2 : (wx.setCell ⟨pw, 0, none⟩ (.slice (some ⟨gl, 0, none⟩) (nl + 1) capl')) = W2 at *
  have al : ∀ k, k < W2.heap.size → (W2.alloc o).heap[k]? = W2.heap[k]? := fun k hk => Go.heap_alloc_old W2 o hk
  have asz : (W2.alloc o).heap.size = W2.heap.size + 1 := by simp
  have hp3 : (W2.alloc o).heap[pw]? = _ := (al pw (Array.getElem?_eq_some_iff.1 hp2).1).trans hp2
  have hl3 : Own (W2.alloc o) 45 6 (.slice (some ⟨gl, 0, none⟩) (nl + 1) capl') (nl + 1) capl' csl' := hl2.move fun g hg => al g (hl2.lt hg).1
  have hk3 : Own (W2.alloc o) 3 1 vk nk capk csk := hk2.move fun g hg => al g (hk2.lt hg).1
  have hne3 : vk.ownBlock ≠ some gl := hk3.ne hl3.heap (by decide)
  have hb1 : But (fun k => k = pw ∨ vl.ownBlock = some k ∨ vk.ownBlock = some k) w wx := (But.of_below hB).trans (But.of_grown h1.grow (fun k hk => .inr (.inl hk)))
  have hb2 : But (fun k => k = pw ∨ vl.ownBlock = some k ∨ vk.ownBlock = some k) w W2 := by rw [← hW2]; exact hb1.setCell (.inl (.inl rfl)) _
  have hb3 := (hb2.alloc o).trans (But.of_grown h2.grow (fun k hk => .inr (.inr hk)))
  refine ⟨(h2.grow.block pw (Array.getElem?_eq_some_iff.1 hp3).1 (Ne.symm (hk3.ne hp3 (by decide)))).trans hp3, ?_, h1.take, h2.own, by simpa using h2.take, hb3, fun g hg => ?_, ?_, ?_⟩
  · exact hl3.move fun g hg => h2.grow.block g (hl3.lt hg).1 (fun e => by simp only [Value.ownBlock, Option.some.injEq] at hg; subst hg; exact hne3 e.symm)
  · have hcl := hk3.1
    rcases h2.ways with ⟨hlt, hgk, hce, hcs⟩ | ⟨hn, hgk, hsame⟩
    · have : g = gk := Option.some.inj (hg.symm.trans hgk)
      subst this
      rw [h2.own.heap, hcs]
      congr 3
      rw [List.take_of_length_le (l := csk.take nk ++ [Value.int .i64 nl] ++ csk.drop (nk + 1)) (by simp only [List.length_append, List.length_take, List.length_drop, List.length_cons, List.length_nil]; omega)]
      simp
    · rw [hsame g (hk3.lt hg).1, (hk3.lt hg).2]
      congr 3
      rw [hn]
      have e1 : csk.take capk = csk := List.take_of_length_le (by omega)
      rw [e1, List.append_assoc, List.take_append_of_le_length (by omega), e1]
  · rcases h1.ways with ⟨_, h, _⟩ | ⟨_, h, _⟩
    · exact .inl h
    · exact .inr (by rw [h]; exact hB.size)
  · rcases h2.ways with ⟨_, h, _⟩ | ⟨_, h, _⟩
    · exact .inl h
    · exact .inr (by rw [h]; exact (hb2.alloc o).size)

set_option maxRecDepth 100000 in
set_option maxHeartbeats 1600000 in
theorem add_any (pw : Nat) (w1 l1 d1 : Nat) (h1 s1 p1 : Int) (vl vk : Value) (st : Int) (nl capl nk capk : Nat) (csl csk : List Value) (w : World)
    (hp : w.heap[pw]? = some (.cells #[vl, .int .i64 st] 64 (0, 0))) (hl : Own w 45 6 vl nl capl csl) (hk : Own w 3 1 vk nk capk csk) (bl : nl ≤ 2097152) (bk : nk ≤ 2097152) :
    Calls Try.prog 42 #[.pointer (some ⟨pw, 0, none⟩), vk, .agg #[.float .f64 w1, .float .f64 l1, .float .f64 d1, .int .i64 h1, .int .i64 s1, .int .i64 p1]] w fun e w' =>
      ∃ gl capl' csl' gk capk' csk', e = .returned (.slice (some ⟨gk, 0, none⟩) (nk + 1) capk') ∧ AddPost w pw vl vk st nl nk capk csl csk [.float .f64 w1, .float .f64 l1, .float .f64 d1, .int .i64 h1, .int .i64 s1, .int .i64 p1] gl capl' csl' gk capk' csk' w' := by
  obtain ⟨i0, hi0, hz0, hz1, hz2⟩ := info_parts Try.info45
  obtain ⟨i3, hi3, hy0, hy1, hy2⟩ := info_parts Try.info3
  have c0 : w.cell? ⟨pw, 0, none⟩ = some vl := by rw [cell_of_row w pw 0 _ _ _ hp]; rfl
  have f0 : w.frozen? ⟨pw, 0, none⟩ = false := frozen_of_row w pw 0 _ _ hp
  have lp := World.block_lt_of_cell? w _ c0
  have np : vl.ownBlock ≠ some pw := hl.ne hp (by decide)
  have npk : vk.ownBlock ≠ some pw := hk.ne hp (by decide)
  have nlk : ∀ g, vk.ownBlock = some g → vl.ownBlock ≠ some g := fun g hg => hl.ne (hk.lt hg).2 (by decide)
  go_enter Try.func42, Try.ntmps42
  go_wp2_with fail
  go_region_law ((refine step_append_exact _ (by rfl) (.tmp 11) (.tmp 13) 43 (by rfl) 45 i0 _ 6 48 Try.underlying43 hi0 hz0 hz1 hz2 rfl vl nl capl csl (by rfl) (hl.below (by repeat (first | exact Below.refl _ _ | apply Below.drew | (refine Below.alloc ?_ (by simp) _)))) ⟨w.heap.size + 1, 0, none⟩ 1 [.float .f64 w1, .float .f64 l1, .float .f64 d1, .int .i64 h1, .int .i64 s1, .int .i64 p1] (by rfl) (by rfl) (World.news_of_block (cs := #[.float .f64 w1, .float .f64 l1, .float .f64 d1, .int .i64 h1, .int .i64 s1, .int .i64 p1]) (t := 45) (fr := (0, 0)) (heap_second w _ _)) (lab_oneCell _ _ _ _ _ _) (by unfold maxLen; omega) (by omega) ?_; intro gl capl' wx csl' hap; have cx : wx.cell? ⟨pw, 0, none⟩ = some vl := (hap.grow.cell_far ⟨pw, 0, none⟩ (by simp; omega) (Ne.symm np)).trans (cell_later (by repeat (first | exact Below.refl _ _ | apply Below.drew | (refine Below.alloc ?_ (by simp) _))) c0); have fx : wx.frozen? ⟨pw, 0, none⟩ = false := (hap.grow.frozen_far ⟨pw, 0, none⟩ (by simp; omega) (Ne.symm np)).trans ((Below.frozen (p := ⟨pw, 0, none⟩) (by repeat (first | exact Below.refl _ _ | apply Below.drew | (refine Below.alloc ?_ (by simp) _))) lp).trans f0)))
  all_goals
    have hB : Below w.heap.size w ((w.alloc (.cells #[.float .f64 w1, .float .f64 l1, .float .f64 d1, .int .i64 h1, .int .i64 s1, .int .i64 p1] 45)).alloc (.cells #[.float .f64 w1, .float .f64 l1, .float .f64 d1, .int .i64 h1, .int .i64 s1, .int .i64 p1] 45)).drew := (by repeat (first | exact Below.refl _ _ | apply Below.drew | (refine Below.alloc ?_ (by simp) _)))
    have hkx : Own wx 3 1 vk nk capk csk := (hk.below hB).move fun g hg => hap.grow.block g ((hk.below hB).lt hg).1 (Ne.symm (nlk g hg))
    have hkw : Own ((wx.setCell ⟨pw, 0, none⟩ (.slice (some ⟨gl, 0, none⟩) (nl + 1) capl')).alloc (.cells #[.int .i64 nl] 3)) 3 1 vk nk capk csk := by
      refine hkx.move fun g hg => ?_
      rw [Go.heap_alloc_old _ _ (by simpa [World.setCell] using (hkx.lt hg).1)]
      exact Below.heap_setCell _ _ _ _ (fun e => npk (by have e' : g = pw := e; rw [← e']; exact hg))
    clear hkx
    have Hap : Hid _ := hap
    clear hap
    go_wp2_with (at_builtin; go_must (refine wpList_append_exact _ rfl (.tmp 17) (.tmp 24) 39 rfl 3 i3 (.int .i64 0) 1 8 Try.underlying39 hi3 hy0 hy1 hy2 rfl vk nk capk csk rfl hkw ⟨wx.heap.size, 0, none⟩ 1 [.int .i64 nl] rfl rfl (news_one _ _ _ _ (by simp [World.setCell])) (ints_oneCell .i64 [(nl : Int)]) (by unfold maxLen; omega) (by omega) ?_); intro gk capk' wy csk' hap2)
    go_ret
    exact ⟨gl, capl', csl', gk, capk', csk', rfl, add_post hp hl hk hB Hap.out hap2⟩
end Go.Proofs.Qxb6601457a
