import Derived.Test.Qxb6601457aPopBag
namespace Go.Proofs.Qxb6601457a
set_option linter.unusedSimpArgs false
set_option linter.unusedVariables false
open Go.RowKit Go.Sort
attribute [local go_sem] run_store_float

/-- What pop's loop holds of the memory: kr, kr + 1, kr + 2 are the result's block, best's and e's. -/
structure PopSt (w wr : World) (g bq kr : Nat) (qv : Value) (row : List Ent) (best e : Ent) : Prop where
  row : RowE wr g 31 row
  rr : RowE wr kr 31 [ent0]
  rb : RowE wr (kr + 1) 31 [best]
  re : RowE wr (kr + 2) 31 [e]
  q : wr.heap[bq]? = some (.cells #[qv] 29 (0, 0))
  hkr : kr = w.heap.size
  hg : g < w.heap.size
  hbq : bq < w.heap.size
  ne : bq ≠ g
  but : But (fun k => k = g ∨ k = bq) w wr

theorem PopSt.below {w wr wr' : World} {g bq kr : Nat} {qv : Value} {row : List Ent} {best e : Ent} (h : PopSt w wr g bq kr qv row best e) (hb : Below wr.heap.size wr wr') : PopSt w wr' g bq kr qv row best e :=
  ⟨h.row.below hb, h.rr.below hb, h.rb.below hb, h.re.below hb, (hb.block bq (Array.getElem?_eq_some_iff.1 h.q).1).trans h.q, h.hkr, h.hg, h.hbq, h.ne, h.but.trans (But.of_below hb)⟩

theorem But.setEnt {S : Nat → Prop} {a w : World} (h : But S a w) {g : Nat} (hg : S g ∨ a.heap.size ≤ g) (o : Nat) (x : Ent) : But S a (World.setEnt w g o x) := by
  unfold World.setEnt
  exact (((h.setCell (p := ⟨g, o, none⟩) hg _).setCell (p := ⟨g, o + 1, none⟩) hg _).setCell (p := ⟨g, o + 2, none⟩) hg _).setCell (p := ⟨g, o + 3, none⟩) hg _

theorem PopSt.store {w wr : World} {g bq kr : Nat} {qv : Value} {row : List Ent} {best e : Ent} (h : PopSt w wr g bq kr qv row best e) {k : Nat} (hk : k < row.length) (x : Ent) : PopSt w (World.setEnt wr g (k * 4) x) g bq kr qv (row.set k x) best e := by
  have h1 := h.hkr
  have h2 := h.hg
  exact ⟨h.row.set hk x, h.rr.setOther _ _ (by omega), h.rb.setOther _ _ (by omega), h.re.setOther _ _ (by omega), (setEnt_heap wr _ _ h.ne).trans h.q, h1, h2, h.hbq, h.ne, h.but.setEnt (.inl (.inl rfl)) _ _⟩

/-- What pop leaves. -/
def PopDone (w w' : World) (g bq n cap : Nat) (h rest : List Ent) : Prop :=
  ∃ c, RowE w' g 31 (c ++ rest) ∧ Popped h c n ∧ w'.heap[bq]? = some (.cells #[.slice (some ⟨g, 0, none⟩) n cap] 29 (0, 0)) ∧ But (fun k => k = g ∨ k = bq) w w'

set_option maxRecDepth 100000 in
set_option maxHeartbeats 3200000 in
theorem pop_tail {u1 u8 u9 u10 u11 u12 u13 u14 u15 u16 u17 u18 u19 u20 u21 u22 u23 u24 u25 u26 u27 u28 u29 u30 u31 u32 u33 u34 u35 u36 u37 u38 u39 u40 u41 u42 u43 u44 u45 u46 u47 u48 u49 u50 u51 u52 u53 u54 u55 u56 u57 u58 u59 u60 u61 u62 u63 u64 u65 u66 u67 u68 : Value} {w wr : World} {n cap g bq kr i : Nat} {h c rest : List Ent} {best e : Ent} (bn : n ≤ 32768) (bc : n + 1 ≤ cap)
    (S : PopSt w wr g bq kr (.slice (some ⟨g, 0, none⟩) (n + 1) cap) (c ++ rest) best e) (I : HInv h c n i e) (hs : ∀ j, 1 ≤ j → j < n → (j - 1) / 2 = i → rlt (eg c j) e = false) :
    Code.wp Try.prog (dropSeq 7 (Try.f27.body.getD .skip)) (bodyPost Try.prog Try.f27 fun e w' => e = .returned (ev best) ∧ PopDone w w' g bq n cap h rest)
      ⟨List.toArray ((.pointer (some ⟨bq, 0, none⟩)) :: u1 :: (.pointer (some ⟨kr, 0, none⟩)) :: (.slice (some ⟨g, 0, none⟩) (n + 1) cap) :: (.pointer (some ⟨kr + 1, 0, none⟩)) :: (.int .i64 n) :: (.pointer (some ⟨kr + 2, 0, none⟩)) :: (.int .i64 i) :: u8 :: u9 :: u10 :: u11 :: u12 :: u13 :: u14 :: u15 :: u16 :: u17 :: u18 :: u19 :: u20 :: u21 :: u22 :: u23 :: u24 :: u25 :: u26 :: u27 :: u28 :: u29 :: u30 :: u31 :: u32 :: u33 :: u34 :: u35 :: u36 :: u37 :: u38 :: u39 :: u40 :: u41 :: u42 :: u43 :: u44 :: u45 :: u46 :: u47 :: u48 :: u49 :: u50 :: u51 :: u52 :: u53 :: u54 :: u55 :: u56 :: u57 :: u58 :: u59 :: u60 :: u61 :: u62 :: u63 :: u64 :: u65 :: u66 :: u67 :: u68 :: []), []⟩ wr := by
  have hi := I.hi
  have hlen := I.len
  have HP : Hid _ := I.done hs
  have hil : i < (c ++ rest).length := by rw [List.length_append]; omega
  have HS : Hid _ := S.store hil e
  have ae := S.re.at (j := 0) (by simp)
  have ax := S.row.at hil
  generalize eg (c ++ rest) i = yy at ax
  rw [show eg [e] 0 = e from rfl, Nat.zero_mul] at ae
  have e0 := ae.c0
  have e1 := ae.c1
  have e2 := ae.c2
  have e3 := ae.c3
  have x0 := ax.c0
  have x1 := ax.c1
  have x2 := ax.c2
  have x3 := ax.c3
  have f0 := S.row.frozen (i * 4)
  have f1 := S.row.frozen (i * 4 + 1)
  have f2 := S.row.frozen (i * 4 + 2)
  have f3 := S.row.frozen (i * 4 + 3)
  clear I hs S ae ax
  go_step
  refine wp_drop 7 _ (by kernel_rfl) (fun K hK => ?_)
  conv => arg 2; whnf
  go_wp2_with fail
  have S1 := HS.out
  have hset : (c ++ rest).set i e = c.set i e ++ rest := List.set_append_left _ _ (by omega)
  rw [hset] at S1
  clear HS e0 e1 e2 e3 x0 x1 x2 x3 f0 f1 f2 f3 hset
  change Code.wp Try.prog (dropSeq 8 (Try.f27.body.getD .skip)) _ _ (World.setEnt wr g (i * 4) e)
  generalize World.setEnt wr g (i * 4) e = wa at S1 ⊢
  generalize c.set i e = c' at S1 HP
  have q0 : wa.cell? ⟨bq, 0, none⟩ = some (.slice (some ⟨g, 0, none⟩) (n + 1) cap) := by rw [cell_of_row wa bq 0 _ _ _ S1.q]; rfl
  have fq : wa.frozen? ⟨bq, 0, none⟩ = false := frozen_of_row wa bq 0 _ _ S1.q
  have HS : Hid _ := S1
  clear S1
  refine wp_drop 8 _ (by kernel_rfl) (fun K hK => ?_)
  conv => arg 2; whnf
  go_wp2_with fail
  have S1 := HS.out
  have h1 := S1.hkr
  have h2 := S1.hbq
  have r1 : RowE (wa.setCell ⟨bq, 0, none⟩ (.slice (some ⟨g, 0, none⟩) n cap)) g 31 (c' ++ rest) := S1.row.other _ S1.ne
  have r2 : RowE (wa.setCell ⟨bq, 0, none⟩ (.slice (some ⟨g, 0, none⟩) n cap)) kr 31 [ent0] := S1.rr.other _ (by omega)
  have r3 : RowE (wa.setCell ⟨bq, 0, none⟩ (.slice (some ⟨g, 0, none⟩) n cap)) (kr + 1) 31 [best] := S1.rb.other _ (by omega)
  have r4 : (wa.setCell ⟨bq, 0, none⟩ (.slice (some ⟨g, 0, none⟩) n cap)).heap[bq]? = some (.cells #[.slice (some ⟨g, 0, none⟩) n cap] 29 (0, 0)) := heap_setCell_same wa bq 0 _ 29 _ S1.q
  have r5 := S1.but.setCell (p := ⟨bq, 0, none⟩) (.inl (.inr rfl)) (.slice (some ⟨g, 0, none⟩) n cap)
  have hgne : g ≠ kr := by have := S1.hg; omega
  have hbne : bq ≠ kr := by omega
  clear HS S1 q0 fq
  generalize wa.setCell ⟨bq, 0, none⟩ (.slice (some ⟨g, 0, none⟩) n cap) = wb at r1 r2 r3 r4 r5 ⊢
  have ab := r3.at (j := 0) (by simp)
  have ar := r2.at (j := 0) (by simp)
  rw [show eg [best] 0 = best from rfl, Nat.zero_mul] at ab
  rw [show eg [ent0] 0 = ent0 from rfl, Nat.zero_mul] at ar
  have e0 := ab.c0
  have e1 := ab.c1
  have e2 := ab.c2
  have e3 := ab.c3
  have x0 := ar.c0
  have x1 := ar.c1
  have x2 := ar.c2
  have x3 := ar.c3
  have f0 := r2.frozen 0
  have f1 := r2.frozen (0 + 1)
  have f2 := r2.frozen (0 + 2)
  have f3 := r2.frozen (0 + 3)
  simp only [Nat.zero_add] at e1 e2 e3 x1 x2 x3 f1 f2 f3
  have H1 : Hid _ := r1.setOther 0 best (fun e => hgne e.symm)
  have H4 : Hid _ := (setEnt_heap wb 0 best hbne).trans r4
  have H5 : Hid _ := r5.setEnt (g := kr) (.inr (by omega)) 0 best
  clear r1 r2 r3 r4 r5 ab ar h1 h2
  refine wp_drop 9 _ (by kernel_rfl) (fun K hK => ?_)
  conv => arg 2; whnf
  go_wp2_with fail
  conv => arg 2; whnf
  go_wp2
  have s0 := World.cell?_setCell_same wb ⟨kr, 0, none⟩ (.int .i64 best.at_) x0
  have s1 := World.cell?_setCell_same (wb.setCell ⟨kr, 0, none⟩ (.int .i64 best.at_)) ⟨kr, 1, none⟩ (.float .f64 best.co) ((World.cell?_setCell_other _ _ _ _ (by simp)).trans x1)
  have s2 := World.cell?_setCell_same ((wb.setCell ⟨kr, 0, none⟩ (.int .i64 best.at_)).setCell ⟨kr, 1, none⟩ (.float .f64 best.co)) ⟨kr, 2, none⟩ (.float .f64 best.de) ((World.cell?_setCell_other _ _ _ _ (by simp)).trans ((World.cell?_setCell_other _ _ _ _ (by simp)).trans x2))
  have s3 := World.cell?_setCell_same (((wb.setCell ⟨kr, 0, none⟩ (.int .i64 best.at_)).setCell ⟨kr, 1, none⟩ (.float .f64 best.co)).setCell ⟨kr, 2, none⟩ (.float .f64 best.de)) ⟨kr, 3, none⟩ (.int .i64 best.ho) ((World.cell?_setCell_other _ _ _ _ (by simp)).trans ((World.cell?_setCell_other _ _ _ _ (by simp)).trans ((World.cell?_setCell_other _ _ _ _ (by simp)).trans x3)))
  refine bodyPost_ret (v := ev best) ?_ rfl ⟨rfl, c', H1.out, HP.out, H4.out, H5.out⟩
  simp [results, Try.results27, go_sem, ev, s0, s1, s2, s3]
end Go.Proofs.Qxb6601457a
