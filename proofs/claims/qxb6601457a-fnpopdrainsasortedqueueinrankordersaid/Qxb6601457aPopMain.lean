import Derived.Test.Qxb6601457aPopLoop
namespace Go.Proofs.Qxb6601457a
set_option linter.unusedSimpArgs false
set_option linter.unusedVariables false
open Go.RowKit Go.Sort
attribute [local go_sem] run_store_float

theorem popSt_init {w : World} {g bq : Nat} {qv : Value} {row : List Ent} (best e : Ent) (ne : bq ≠ g) (hq : w.heap[bq]? = some (.cells #[qv] 29 (0, 0))) (R : RowE w g 31 row) :
    PopSt w (((w.alloc (.cells #[.int .i64 0, .float .f64 0, .float .f64 0, .int .i64 0] 31)).alloc (.cells #[.int .i64 best.at_, .float .f64 best.co, .float .f64 best.de, .int .i64 best.ho] 31)).alloc (.cells #[.int .i64 e.at_, .float .f64 e.co, .float .f64 e.de, .int .i64 e.ho] 31)) g bq w.heap.size qv row best e := by
  have B1 : ∀ (v : World) (o : Obj), Below v.heap.size v (v.alloc o) := fun v o => (Below.refl _ _).alloc (Nat.le_refl _) _
  have r0 : RowE (w.alloc (.cells #[.int .i64 0, .float .f64 0, .float .f64 0, .int .i64 0] 31)) w.heap.size 31 [ent0] := Go.heap_alloc_new w _
  have r1 : RowE ((w.alloc (.cells #[.int .i64 0, .float .f64 0, .float .f64 0, .int .i64 0] 31)).alloc (.cells #[.int .i64 best.at_, .float .f64 best.co, .float .f64 best.de, .int .i64 best.ho] 31)) (w.heap.size + 1) 31 [best] := heap_second w _ _
  have r2 : RowE (((w.alloc (.cells #[.int .i64 0, .float .f64 0, .float .f64 0, .int .i64 0] 31)).alloc (.cells #[.int .i64 best.at_, .float .f64 best.co, .float .f64 best.de, .int .i64 best.ho] 31)).alloc (.cells #[.int .i64 e.at_, .float .f64 e.co, .float .f64 e.de, .int .i64 e.ho] 31)) (w.heap.size + 2) 31 [e] := by
    have := heap_second (w.alloc (.cells #[.int .i64 0, .float .f64 0, .float .f64 0, .int .i64 0] 31)) (.cells #[.int .i64 best.at_, .float .f64 best.co, .float .f64 best.de, .int .i64 best.ho] 31) (.cells #[.int .i64 e.at_, .float .f64 e.co, .float .f64 e.de, .int .i64 e.ho] 31)
    unfold RowE
    rw [show w.heap.size + 2 = (w.alloc (.cells #[.int .i64 0, .float .f64 0, .float .f64 0, .int .i64 0] 31)).heap.size + 1 from by simp]
    exact this
  have hql : bq < w.heap.size := (Array.getElem?_eq_some_iff.1 hq).1
  have B3 : Below w.heap.size w (((w.alloc (.cells #[.int .i64 0, .float .f64 0, .float .f64 0, .int .i64 0] 31)).alloc (.cells #[.int .i64 best.at_, .float .f64 best.co, .float .f64 best.de, .int .i64 best.ho] 31)).alloc (.cells #[.int .i64 e.at_, .float .f64 e.co, .float .f64 e.de, .int .i64 e.ho] 31)) :=
    (((Below.refl _ _).alloc (Nat.le_refl _) _).alloc (by simp) _).alloc (by simp; omega) _
  exact ⟨R.below B3, (r0.below (B1 _ _)).below (B1 _ _), r1.below (B1 _ _), r2, (B3.block bq hql).trans hq, rfl, R.lt, hql, ne, But.of_below B3⟩

set_option maxRecDepth 100000 in
set_option maxHeartbeats 3200000 in
theorem pop_any (bq g n cap : Nat) (h rest : List Ent) (w : World) (bn : n ≤ 32768) (bc : n + 1 ≤ cap) (ne : bq ≠ g) (hq : w.heap[bq]? = some (.cells #[.slice (some ⟨g, 0, none⟩) (n + 1) cap] 29 (0, 0)))
    (R : RowE w g 31 (h ++ rest)) (hl : h.length = n + 1) (hp : Heap h (n + 1)) (hnn : ∀ x ∈ h, nn x) :
    Calls Try.prog 27 #[.pointer (some ⟨bq, 0, none⟩)] w fun e w' => e = .returned (ev (eg h 0)) ∧ PopDone w w' g bq n cap h rest := by
  have hlen : n + 1 ≤ (h ++ rest).length := by rw [List.length_append]; omega
  have e0 : eg (h ++ rest) 0 = eg h 0 := by simp [eg, List.getElem?_append, hl]
  have en : eg (h ++ rest) n = eg h n := by simp [eg, List.getElem?_append, hl]
  have a0 := R.at (j := 0) (by omega)
  have an := R.at (j := n) (by omega)
  rw [e0, Nat.zero_mul] at a0
  rw [en] at an
  obtain ⟨best, hbest⟩ : ∃ best, best = eg h 0 := ⟨_, rfl⟩
  obtain ⟨e, he⟩ : ∃ e, e = eg h n := ⟨_, rfl⟩
  rw [← hbest] at a0 ⊢
  rw [← he] at an
  have HQ : Hid _ := hq
  have HR : Hid _ := R
  have HP : Hid _ := hp
  have HNN : Hid _ := hnn
  have HBE : Hid _ := hbest
  have HEE : Hid _ := he
  have q0 : w.cell? ⟨bq, 0, none⟩ = some (.slice (some ⟨g, 0, none⟩) (n + 1) cap) := by rw [cell_of_row w bq 0 _ _ _ hq]; rfl
  have hgl := R.lt
  have hql : bq < w.heap.size := (Array.getElem?_eq_some_iff.1 hq).1
  have b0 := a0.c0
  have b1 := a0.c1
  have b2 := a0.c2
  have b3 := a0.c3
  have n0 := an.c0
  have n1 := an.c1
  have n2 := an.c2
  have n3 := an.c3
  simp only [Nat.zero_add] at b1 b2 b3
  clear hq R hp hnn hbest he a0 an e0 en
  go_enter Try.func27, Try.ntmps27
  change Code.wp Try.prog (dropSeq 0 (Try.f27.body.getD .skip)) _ _ _
  refine wp_drop 0 _ (by kernel_rfl) (fun K hK => ?_)
  conv => arg 2; whnf
  go_wp2_with fail
  refine wp_drop 1 _ (by kernel_rfl) (fun K hK => ?_)
  conv => arg 2; whnf
  go_wp2_with fail
  refine wp_drop 2 _ (by kernel_rfl) (fun K hK => ?_)
  conv => arg 2; whnf
  go_wp2_with fail
  refine wp_drop 3 _ (by kernel_rfl) (fun K hK => ?_)
  conv => arg 2; whnf
  go_wp2_with fail
  refine wp_drop 4 _ (by kernel_rfl) (fun K hK => ?_)
  conv => arg 2; whnf
  go_wp2_with fail
  refine wp_drop 5 _ (by kernel_rfl) (fun K hK => ?_)
  conv => arg 2; whnf
  go_wp2_with fail
  have I := HInv.init hl HP.out
  rw [← HEE.out] at I
  exact pop_loop bn bc (popSt_init best e ne HQ.out HR.out) I HNN.out

theorem PopDone.grown {w w1 w' : World} {g bq n cap : Nat} {h rest : List Ent} (hb : Below w.heap.size w w1) (hd : PopDone w1 w' g bq n cap h rest) : PopDone w w' g bq n cap h rest := by
  obtain ⟨c, r, p, q, b⟩ := hd
  exact ⟨c, r, p, q, (But.of_below hb).trans b⟩

set_option maxRecDepth 100000 in
set_option maxHeartbeats 3200000 in
theorem zzpop_any (bq g n cap : Nat) (h rest : List Ent) (w : World) (bn : n ≤ 32768) (bc : n + 1 ≤ cap) (ne : bq ≠ g) (hq : w.heap[bq]? = some (.cells #[.slice (some ⟨g, 0, none⟩) (n + 1) cap] 29 (0, 0)))
    (R : RowE w g 31 (h ++ rest)) (hl : h.length = n + 1) (hp : Heap h (n + 1)) (hnn : ∀ x ∈ h, nn x) :
    Calls Try.prog 11 #[.pointer (some ⟨bq, 0, none⟩)] w fun e w' => e = .returned (ev (eg h 0)) ∧ PopDone w w' g bq n cap h rest := by
  have hql : bq < w.heap.size := (Array.getElem?_eq_some_iff.1 hq).1
  have hgl := R.lt
  have B1 : Below w.heap.size w (w.alloc (.cells #[.int .i64 0, .float .f64 0, .float .f64 0, .int .i64 0] 31)) := (Below.refl _ _).alloc (Nat.le_refl _) _
  have R1 := R.below B1
  have Q1 := (B1.block bq hql).trans hq
  have r0 : RowE (w.alloc (.cells #[.int .i64 0, .float .f64 0, .float .f64 0, .int .i64 0] 31)) w.heap.size 31 [ent0] := Go.heap_alloc_new w _
  have HR1 : Hid _ := R1
  have HQ1 : Hid _ := Q1
  have HB1 : Hid _ := B1
  have HR0 : Hid _ := r0
  have HP : Hid _ := hp
  have HNN : Hid _ := hnn
  obtain ⟨best, hbest⟩ : ∃ best, best = eg h 0 := ⟨_, rfl⟩
  rw [← hbest]
  have HBE : Hid _ := hbest
  clear hq R R1 Q1 B1 r0 hp hnn hbest
  go_enter Try.func11, Try.ntmps11
  go_wp2_with (go_at_call 27; go_must (refine (pop_any bq g n cap h rest _ bn bc ne HQ1.out HR1.out hl HP.out HNN.out).mono ?_); rintro e wx ⟨rfl, hd⟩; rw [← HBE.out]; unfold ev; have rx : RowE wx w.heap.size 31 [ent0] := (by obtain ⟨c, r, p, q, b⟩ := hd; exact (b.block w.heap.size (RowE.lt HR0.out) (by omega)).trans HR0.out); have ar := rx.at (j := 0) (by simp); rw [show eg [ent0] 0 = ent0 from rfl, Nat.zero_mul] at ar; have x0 := ar.c0; have x1 := ar.c1; have x2 := ar.c2; have x3 := ar.c3; have f0 := rx.frozen 0; have f1 := rx.frozen 1; have f2 := rx.frozen 2; have f3 := rx.frozen 3; simp only [Nat.zero_add] at x1 x2 x3; have HRX : Hid _ := rx; have HD : Hid _ := hd; clear rx ar hd)
  obtain ⟨c, r, p, q, b⟩ := HD.out
  have s0 := World.cell?_setCell_same wx ⟨w.heap.size, 0, none⟩ (.int .i64 best.at_) x0
  have s1 := World.cell?_setCell_same (wx.setCell ⟨w.heap.size, 0, none⟩ (.int .i64 best.at_)) ⟨w.heap.size, 1, none⟩ (.float .f64 best.co) ((World.cell?_setCell_other _ _ _ _ (by simp)).trans x1)
  have s2 := World.cell?_setCell_same ((wx.setCell ⟨w.heap.size, 0, none⟩ (.int .i64 best.at_)).setCell ⟨w.heap.size, 1, none⟩ (.float .f64 best.co)) ⟨w.heap.size, 2, none⟩ (.float .f64 best.de) ((World.cell?_setCell_other _ _ _ _ (by simp)).trans ((World.cell?_setCell_other _ _ _ _ (by simp)).trans x2))
  have s3 := World.cell?_setCell_same (((wx.setCell ⟨w.heap.size, 0, none⟩ (.int .i64 best.at_)).setCell ⟨w.heap.size, 1, none⟩ (.float .f64 best.co)).setCell ⟨w.heap.size, 2, none⟩ (.float .f64 best.de)) ⟨w.heap.size, 3, none⟩ (.int .i64 best.ho) ((World.cell?_setCell_other _ _ _ _ (by simp)).trans ((World.cell?_setCell_other _ _ _ _ (by simp)).trans ((World.cell?_setCell_other _ _ _ _ (by simp)).trans x3)))
  have b' := ((But.of_below (S := fun k => k = g ∨ k = bq) HB1.out).trans b).setEnt (g := w.heap.size) (.inr (Nat.le_refl _)) 0 best
  refine bodyPost_ret (v := ev best) ?_ rfl ⟨rfl, c, r.setOther 0 best (by omega), p, (setEnt_heap wx 0 best (by omega)).trans q, b'⟩
  simp [results, Try.results11, go_sem, ev, s0, s1, s2, s3]
end Go.Proofs.Qxb6601457a
