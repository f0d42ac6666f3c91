import Derived.Test.Qxb6601457aAdd
import Derived.Test.Qxb6601457aLabs
import Derived.Lib.QuietBelow
namespace Go.Proofs.Qxb6601457a
set_option linter.unusedSimpArgs false
set_option linter.unusedVariables false
open Go.RowKit Go.Sort
attribute [local go_sem] run_store_float

theorem asGood_lab (x y : Lab) (w : World) :
    Calls Try.prog 33 #[.agg #[.float .f64 x.wt, .float .f64 x.lo, .float .f64 x.de, .int .i64 x.ho, .int .i64 x.st, .int .i64 x.pr], .agg #[.float .f64 y.wt, .float .f64 y.lo, .float .f64 y.de, .int .i64 y.ho, .int .i64 y.st, .int .i64 y.pr]] w fun e w' => e = .returned (.bool (asGoodB x y)) ∧ Below w.heap.size w w' :=
  asGood_any _ _ _ _ _ _ _ _ _ _ _ _ _

theorem asGood_eq (x y : Lab) (b : Bool) (h : asGoodB x y = b) (w : World) :
    Calls Try.prog 33 #[.agg #[.float .f64 x.wt, .float .f64 x.lo, .float .f64 x.de, .int .i64 x.ho, .int .i64 x.st, .int .i64 x.pr], .agg #[.float .f64 y.wt, .float .f64 y.lo, .float .f64 y.de, .int .i64 y.ho, .int .i64 y.st, .int .i64 y.pr]] w fun e w' => e = .returned (.bool b) ∧ Below w.heap.size w w' :=
  h ▸ asGood_lab x y w

def intv (a : Nat) : Value := .int .i64 a
def hitB (ls : List Lab) (d c : Lab) (ks : List Nat) : Bool := ks.any fun a => asGoodB (ls.getD a d) c
def leftL (ls : List Lab) (d c : Lab) (ks : List Nat) : List Nat := ks.filter fun a => !asGoodB c (ls.getD a d)

theorem leftL_take_succ (ls : List Lab) (d c : Lab) (ks : List Nat) (k : Nat) (h : k < ks.length) :
    leftL ls d c (ks.take (k + 1)) = leftL ls d c (ks.take k) ++ (if asGoodB c (ls.getD (ks.getD k 0) d) = true then [] else [ks.getD k 0]) := by
  have e : ks.take (k + 1) = ks.take k ++ [ks.getD k 0] := by
    rw [List.take_succ_eq_append_getElem h]; simp [List.getD, h]
  rw [e]
  unfold leftL
  rw [List.filter_append]
  congr 1
  generalize ks.getD k 0 = q
  cases hd : asGoodB c (ls.getD q d) <;> simp only [List.filter_cons, hd, List.filter_nil] <;> rfl

theorem leftL_take_le (ls : List Lab) (d c : Lab) (ks : List Nat) (k : Nat) : (leftL ls d c (ks.take k)).length ≤ k :=
  Nat.le_trans (List.length_filter_le _ _) (by simp; omega)

/-- What 'keep' leaves where nothing kept is as good as c. -/
structure KeepPost (w : World) (pw : Nat) (vl vk : Value) (st : Int) (nl nk capk : Nat) (csl csk : List Value) (c : Lab) (F : List Nat) (gl capl' : Nat) (csl' : List Value) (gk capk' : Nat) (csk' : List Value) (w' : World) : Prop where
  ptr : w'.heap[pw]? = some (.cells #[.slice (some ⟨gl, 0, none⟩) (nl + 1) capl', .int .i64 (wrap64 (st + nk))] 64 (0, 0))
  lab : Own w' 45 6 (.slice (some ⟨gl, 0, none⟩) (nl + 1) capl') (nl + 1) capl' csl'
  ltk : csl'.take ((nl + 1) * 6) = csl.take (nl * 6) ++ labCells c
  kep : Own w' 3 1 (.slice (some ⟨gk, 0, none⟩) (F.length + 1) capk') (F.length + 1) capk' csk'
  ktk : csk'.take (F.length + 1) = (F ++ [nl]).map intv
  but : But (fun k => k = pw ∨ vl.ownBlock = some k ∨ vk.ownBlock = some k) w w'
  old : ∀ g, vk.ownBlock = some g → w'.heap[g]? = some (.cells (((F ++ [nl]).map intv ++ csk.drop (F.length + 1)).take capk).toArray 3 (0, 0))
  lloc : vl.ownBlock = some gl ∨ w.heap.size ≤ gl
  kloc : vk.ownBlock = some gk ∨ w.heap.size ≤ gk

theorem keep_post {w w3 w' : World} {pw : Nat} {vl vk vk2 : Value} {st : Int} {nl nk capk : Nat} {csl csk : List Value} {c : Lab} {F : List Nat} {gl capl' : Nat} {csl' : List Value} {gk capk' : Nat} {csk' : List Value}
    (hb : But (fun k => k = pw ∨ vl.ownBlock = some k ∨ vk.ownBlock = some k) w w3) (hvk : vk2.ownBlock = vk.ownBlock)
    (h : AddPost w3 pw vl vk2 (wrap64 (st + nk)) nl F.length capk csl (F.map intv ++ csk.drop F.length) (labCells c) gl capl' csl' gk capk' csk' w') :
    KeepPost w pw vl vk st nl nk capk csl csk c F gl capl' csl' gk capk' csk' w' := by
  have e1 : (F.map intv ++ csk.drop F.length).take F.length = F.map intv := by
    rw [List.take_append_of_le_length (by simp), List.take_of_length_le (by simp)]
  have e2 : (F.map intv ++ csk.drop F.length).drop (F.length + 1) = csk.drop (F.length + 1) := by
    rw [List.drop_append, List.drop_of_length_le (by simp)]
    simp
  refine ⟨h.ptr, h.lab, h.ltk, h.kep, ?_, hb.trans (h.but.mono ?_), ?_, ?_, ?_⟩
  · rw [h.ktk, e1]; simp [intv]
  · intro k hk; rw [hvk] at hk; exact hk
  · intro g hg
    rw [h.old g (by rw [hvk]; exact hg), e1, e2]
    simp [intv]
  · exact h.lloc.elim .inl (fun x => .inr (Nat.le_trans hb.size x))
  · rw [← hvk]; exact h.kloc.elim .inl (fun x => .inr (Nat.le_trans hb.size x))

set_option maxRecDepth 100000 in
set_option maxHeartbeats 3200000 in
theorem keep_full (pw g gl : Nat) (c : Lab) (st : Int) (nl capl nk capk : Nat) (csl csk : List Value) (ls : List Lab) (d : Lab) (ks : List Nat) (w : World)
    (hp : w.heap[pw]? = some (.cells #[.slice (some ⟨gl, 0, none⟩) nl capl, .int .i64 st] 64 (0, 0))) (hl : Own w 45 6 (.slice (some ⟨gl, 0, none⟩) nl capl) nl capl csl) (hk : Own w 3 1 (.slice (some ⟨g, 0, none⟩) nk capk) nk capk csk) (bl : nl ≤ 2097152) (bk : nk ≤ 2097152)
    (hfl : csl.take (nl * 6) = flat ls) (hln : ls.length = nl) (hfk : csk.take nk = ks.map intv) (hkn : ks.length = nk) (hin : ∀ a ∈ ks, a < nl) :
    Calls Try.prog 32 #[.pointer (some ⟨pw, 0, none⟩), .slice (some ⟨g, 0, none⟩) nk capk, .agg #[.float .f64 c.wt, .float .f64 c.lo, .float .f64 c.de, .int .i64 c.ho, .int .i64 c.st, .int .i64 c.pr]] w fun e w' =>
      (hitB ls d c ks = true ∧ e = .returned (.slice (some ⟨g, 0, none⟩) nk capk) ∧ w'.heap[pw]? = some (.cells #[.slice (some ⟨gl, 0, none⟩) nl capl, .int .i64 (wrap64 (st + nk))] 64 (0, 0)) ∧ But (fun k => k = pw) w w') ∨
      (hitB ls d c ks = false ∧ ∃ gl' capl' csl' gk capk' csk', e = .returned (.slice (some ⟨gk, 0, none⟩) ((leftL ls d c ks).length + 1) capk') ∧ KeepPost w pw (.slice (some ⟨gl, 0, none⟩) nl capl) (.slice (some ⟨g, 0, none⟩) nk capk) st nl nk capk csl csk c (leftL ls d c ks) gl' capl' csl' gk capk' csk' w') := by
  obtain ⟨i3, hi3, hy0, hy1, hy2⟩ := info_parts Try.info3
  have c0 : w.cell? ⟨pw, 0, none⟩ = some (.slice (some ⟨gl, 0, none⟩) nl capl) := by rw [cell_of_row w pw 0 _ _ _ hp]; rfl
  have c1 : w.cell? ⟨pw, 1, none⟩ = some (.int .i64 st) := by rw [cell_of_row w pw 1 _ _ _ hp]; rfl
  have f1 : w.frozen? ⟨pw, 1, none⟩ = false := frozen_of_row w pw 1 _ _ hp
  have lp := World.block_lt_of_cell? w _ c0
  have hnc : nk ≤ capk := hk.2.1
  have hcl : csk.length = capk := by simpa using hk.1
  have hkk : ∀ j, j < nk → csk[j]? = some (intv (ks.getD j 0)) := by
    intro j hj
    have : (csk.take nk)[j]? = (ks.map intv)[j]? := by rw [hfk]
    rw [List.getElem?_take, if_pos hj] at this
    rw [this]
    simp [List.getD, show j < ks.length by omega]
  have hind : ∀ j, j < nk → ks.getD j 0 < nl := by
    intro j hj
    refine hin _ ?_
    have hj' : j < ks.length := by omega
    have e : ks.getD j 0 = ks[j] := by simp [List.getD, hj']
    rw [e]; exact List.getElem_mem hj'
  go_enter Try.func32, Try.ntmps32
  go_wp2_with fail
  have hB1 : ((w.setCell ⟨pw, 1, none⟩ (.int .i64 (wrap64 (st + nk)))).alloc (.cells #[.float .f64 c.wt, .float .f64 c.lo, .float .f64 c.de, .int .i64 c.ho, .int .i64 c.st, .int .i64 c.pr] 45)).heap[w.heap.size]? = some (.cells #[.float .f64 c.wt, .float .f64 c.lo, .float .f64 c.de, .int .i64 c.ho, .int .i64 c.st, .int .i64 c.pr] 45 (0, 0)) := by
    have := Go.heap_alloc_new (w.setCell ⟨pw, 1, none⟩ (.int .i64 (wrap64 (st + nk)))) (.cells #[.float .f64 c.wt, .float .f64 c.lo, .float .f64 c.de, .int .i64 c.ho, .int .i64 c.st, .int .i64 c.pr] 45)
    simpa [World.setCell] using this
  have hp1 : ((w.setCell ⟨pw, 1, none⟩ (.int .i64 (wrap64 (st + nk)))).alloc (.cells #[.float .f64 c.wt, .float .f64 c.lo, .float .f64 c.de, .int .i64 c.ho, .int .i64 c.st, .int .i64 c.pr] 45)).heap[pw]? = some (.cells #[.slice (some ⟨gl, 0, none⟩) nl capl, .int .i64 (wrap64 (st + nk))] 64 (0, 0)) := by
    rw [Go.heap_alloc_old _ _ (by simpa [World.setCell] using lp), heap_setCell_same w pw 1 _ _ _ hp]; rfl
  have hb1 : But (fun k => k = pw) w ((w.setCell ⟨pw, 1, none⟩ (.int .i64 (wrap64 (st + nk)))).alloc (.cells #[.float .f64 c.wt, .float .f64 c.lo, .float .f64 c.de, .int .i64 c.ho, .int .i64 c.st, .int .i64 c.pr] 45)) := ((But.refl (fun k => k = pw) w).setCell (p := ⟨pw, 1, none⟩) (.inl rfl) _).alloc _
  have hl1 := hl.but hb1 (fun k e => e ▸ hl.ne hp (by decide))
  have hk1 := hk.but hb1 (fun k e => e ▸ hk.ne hp (by decide))
  generalize ((w.setCell ⟨pw, 1, none⟩ (.int .i64 (wrap64 (st + nk)))).alloc (.cells #[.float .f64 c.wt, .float .f64 c.lo, .float .f64 c.de, .int .i64 c.ho, .int .i64 c.st, .int .i64 c.pr] 45)) = W1 at *
  clear hp hl hk c0 c1 f1
  go_loopw [23] (fun i wr => ∃ k : Nat, k ≤ nk ∧ i = .int .i64 k ∧ (∀ j, j < k → asGoodB (ls.getD (ks.getD j 0) d) c = false) ∧ Below W1.heap.size W1 wr) (fun i _ => nk - (intOf i).toNat)
  case atStart => exact ⟨0, Nat.zero_le _, rfl, fun j hj => by omega, Below.refl _ _⟩
  case round =>
    obtain ⟨k, hkle, rfl, hno, hbel⟩ := hrel
    by_cases hlt : k < nk
    · obtain ⟨a, ha⟩ : ∃ a, a = ks.getD k 0 := ⟨_, rfl⟩
      obtain ⟨x, hx⟩ : ∃ x, x = ls.getD a d := ⟨_, rfl⟩
      have hal' : a < nl := ha ▸ hind k hlt
      have hal : (a : Int) < nl := by omega
      have cg : wr.cell? ⟨g, k, none⟩ = some (.int .i64 a) := cell_later hbel (by rw [hk1.cell k, hkk k hlt, ← ha]; rfl)
      have hxa : LabAt wr gl (a * 6) x := hx ▸ (hl1.labAt d hfl hln hal').below hbel
      have hca : LabAt wr w.heap.size 0 c := (labAt_of_block hB1).below hbel
      have cp : ∀ d os, (grow (redrawn wr d) os).cell? ⟨pw, 0, none⟩ = some (.slice (some ⟨gl, 0, none⟩) nl capl) := fun d os => cell_regrown (cell_later hbel (by rw [cell_of_row W1 pw 0 _ _ _ hp1]; rfl)) d os
      have e0 : ∀ d os, (grow (redrawn wr d) os).cell? ⟨gl, a * 6, none⟩ = some (.float .f64 x.wt) := fun d os => (hxa.regrown d os).c0
      have e1 : ∀ d os, (grow (redrawn wr d) os).cell? ⟨gl, a * 6 + 1, none⟩ = some (.float .f64 x.lo) := fun d os => (hxa.regrown d os).c1
      have e2 : ∀ d os, (grow (redrawn wr d) os).cell? ⟨gl, a * 6 + 2, none⟩ = some (.float .f64 x.de) := fun d os => (hxa.regrown d os).c2
      have e3 : ∀ d os, (grow (redrawn wr d) os).cell? ⟨gl, a * 6 + 3, none⟩ = some (.int .i64 x.ho) := fun d os => (hxa.regrown d os).c3
      have e4 : ∀ d os, (grow (redrawn wr d) os).cell? ⟨gl, a * 6 + 4, none⟩ = some (.int .i64 x.st) := fun d os => (hxa.regrown d os).c4
      have e5 : ∀ d os, (grow (redrawn wr d) os).cell? ⟨gl, a * 6 + 5, none⟩ = some (.int .i64 x.pr) := fun d os => (hxa.regrown d os).c5
      have b0 : ∀ d os, (grow (redrawn wr d) os).cell? ⟨w.heap.size, 0, none⟩ = some (.float .f64 c.wt) := fun d os => (hca.regrown d os).c0
      have b1 : ∀ d os, (grow (redrawn wr d) os).cell? ⟨w.heap.size, 1, none⟩ = some (.float .f64 c.lo) := fun d os => (hca.regrown d os).c1
      have b2 : ∀ d os, (grow (redrawn wr d) os).cell? ⟨w.heap.size, 2, none⟩ = some (.float .f64 c.de) := fun d os => (hca.regrown d os).c2
      have b3 : ∀ d os, (grow (redrawn wr d) os).cell? ⟨w.heap.size, 3, none⟩ = some (.int .i64 c.ho) := fun d os => (hca.regrown d os).c3
      have b4 : ∀ d os, (grow (redrawn wr d) os).cell? ⟨w.heap.size, 4, none⟩ = some (.int .i64 c.st) := fun d os => (hca.regrown d os).c4
      have b5 : ∀ d os, (grow (redrawn wr d) os).cell? ⟨w.heap.size, 5, none⟩ = some (.int .i64 c.pr) := fun d os => (hca.regrown d os).c5
      have Ha : Hid (a = ks.getD k 0) := ha
      have Hx : Hid (x = ls.getD a d) := hx
      clear ha hx hxa hca
      by_cases hd : asGoodB x c = true
      · go_wp2_with fail
        refine wp_region_quiet_below (by kernel_rfl) (by kernel_rfl) ?_
        repeat (quiet_step ((go_at_call 33; exact Calls.regrown_of (asGood_eq _ _ _ hd _))))
        refine wpQuiet_nil ?_
        intro _ hw'
        obtain ⟨⟨dq, osq⟩, hw''⟩ := hw'
        subst hw''
        go_wp2
        go_ret
        refine .inl ⟨?_, rfl, ?_, ?_⟩
        · unfold hitB
          rw [List.any_eq_true]
          refine ⟨a, ?_, by rw [← Hx.out]; exact hd⟩
          have hk' : k < ks.length := by omega
          rw [Ha.out]; simp only [List.getD, hk', List.getElem?_eq_getElem, Option.getD_some]; exact List.getElem_mem hk'
        · have h1 := hbel.block pw (Array.getElem?_eq_some_iff.1 hp1).1
          rw [(below_regrown wr dq osq).block pw (Nat.lt_of_lt_of_le (Array.getElem?_eq_some_iff.1 hp1).1 hbel.size), h1, hp1]
        · exact hb1.trans ((But.of_below hbel).trans (But.of_below (below_regrown wr dq osq)))
      · have hd' : asGoodB x c = false := by simpa using hd
        clear hd
        go_wp2_with fail
        refine wp_region_quiet_below (by kernel_rfl) (by kernel_rfl) ?_
        repeat (quiet_step ((go_at_call 33; exact Calls.regrown_of (asGood_eq _ _ _ hd' _))))
        refine wpQuiet_nil ?_
        intro _ hw'
        obtain ⟨⟨dq, osq⟩, hw''⟩ := hw'
        subst hw''
        go_wp2
        go_roundw
        case rel => exact ⟨k + 1, by omega, by go_num, fun j hj => by
            by_cases hjk : j < k
            · exact hno j hjk
            · have : j = k := by omega
              subst this; rw [← Ha.out, ← Hx.out]; exact hd',
          hbel.trans ((below_regrown wr dq osq).mono hbel.size)⟩
        case measure => simp [intOf]; omega
    · obtain rfl : nk = k := by omega
      have Hno : Hid (hitB ls d c ks = false) := by
        show hitB ls d c ks = false
        unfold hitB
        rw [List.any_eq_false]
        intro a hmem
        obtain ⟨j, hj, rfl⟩ := List.getElem_of_mem hmem
        have := hno j (by omega)
        simpa [List.getD, hj] using this
      clear hno
      have hp2 := (hbel.block pw (Array.getElem?_eq_some_iff.1 hp1).1).trans hp1
      have hl2 := hl1.below hbel
      have hk2 := hk1.below hbel
      have hB2 := (hbel.block w.heap.size (Array.getElem?_eq_some_iff.1 hB1).1).trans hB1
      have hb2 := hb1.trans (But.of_below hbel)
      clear hp1 hl1 hk1 hB1 hb1 hbel
      clear hkle hlt
      obtain ⟨W2, hW2⟩ : ∃ W2 : World, W2 = wr := ⟨_, rfl⟩
      subst hW2
      go_wp2_with fail
      go_loopw [9, 42] (fun l i wr => ∃ k : Nat, k ≤ nk ∧ i = .int .i64 k ∧ l = .slice (some ⟨g, 0, none⟩) (leftL ls d c (ks.take k)).length capk ∧ Own wr 3 1 (.slice (some ⟨g, 0, none⟩) (leftL ls d c (ks.take k)).length capk) (leftL ls d c (ks.take k)).length capk ((leftL ls d c (ks.take k)).map intv ++ csk.drop (leftL ls d c (ks.take k)).length) ∧ But (fun q => q = g) W2 wr) (fun _ i _ => nk - (intOf i).toNat)
      case atStart => exact ⟨0, Nat.zero_le _, rfl, rfl, ⟨by simpa [leftL] using hk2.1, Nat.zero_le _, hk2.2.2.1, .inr ⟨g, rfl, by simpa [leftL] using hk2.heap⟩⟩, But.refl _ _⟩
      case round =>
        obtain ⟨k, hkle, rfl, rfl, hown, hbut⟩ := hrel
        have hml := leftL_take_le ls d c ks k
        have hpg : pw ≠ g := fun e => hk2.ne hp2 (by decide) (by simp [Value.ownBlock, e])
        have hBg : w.heap.size ≠ g := fun e => hk2.ne hB2 (by decide) (by simp [Value.ownBlock, e])
        have hp3 := (hbut.block pw (Array.getElem?_eq_some_iff.1 hp2).1 hpg).trans hp2
        have hB3 := (hbut.block w.heap.size (Array.getElem?_eq_some_iff.1 hB2).1 hBg).trans hB2
        have hl3 := hl2.but hbut (fun q e => e ▸ hl2.ne hk2.heap (by decide))
        by_cases hlt : k < nk
        · obtain ⟨a, ha⟩ : ∃ a, a = ks.getD k 0 := ⟨_, rfl⟩
          obtain ⟨x, hx⟩ : ∃ x, x = ls.getD a d := ⟨_, rfl⟩
          have hal' : a < nl := ha ▸ hind k hlt
          have hal : (a : Int) < nl := by omega
          have hsucc := leftL_take_succ ls d c ks k (by omega)
          rw [← ha, ← hx] at hsucc
          have cg : wr.cell? ⟨g, k, none⟩ = some (.int .i64 a) := by
            rw [hown.cell k, List.getElem?_append_right (by simpa using hml), List.getElem?_drop, List.length_map, show (leftL ls d c (ks.take k)).length + (k - (leftL ls d c (ks.take k)).length) = k from by omega, hkk k hlt, ← ha]; rfl
          have hxa : LabAt wr gl (a * 6) x := hx ▸ hl3.labAt d hfl hln hal'
          have hca : LabAt wr w.heap.size 0 c := labAt_of_block hB3
          have cp : ∀ d os, (grow (redrawn wr d) os).cell? ⟨pw, 0, none⟩ = some (Value.slice (some ⟨gl, 0, none⟩) nl capl) := fun d os => cell_regrown (by rw [cell_of_row wr pw 0 _ _ _ hp3]; rfl) d os
          have e0 : ∀ d os, (grow (redrawn wr d) os).cell? ⟨gl, a * 6, none⟩ = some (.float .f64 x.wt) := fun d os => (hxa.regrown d os).c0
          have e1 : ∀ d os, (grow (redrawn wr d) os).cell? ⟨gl, a * 6 + 1, none⟩ = some (.float .f64 x.lo) := fun d os => (hxa.regrown d os).c1
          have e2 : ∀ d os, (grow (redrawn wr d) os).cell? ⟨gl, a * 6 + 2, none⟩ = some (.float .f64 x.de) := fun d os => (hxa.regrown d os).c2
          have e3 : ∀ d os, (grow (redrawn wr d) os).cell? ⟨gl, a * 6 + 3, none⟩ = some (.int .i64 x.ho) := fun d os => (hxa.regrown d os).c3
          have e4 : ∀ d os, (grow (redrawn wr d) os).cell? ⟨gl, a * 6 + 4, none⟩ = some (.int .i64 x.st) := fun d os => (hxa.regrown d os).c4
          have e5 : ∀ d os, (grow (redrawn wr d) os).cell? ⟨gl, a * 6 + 5, none⟩ = some (.int .i64 x.pr) := fun d os => (hxa.regrown d os).c5
          have b0 : ∀ d os, (grow (redrawn wr d) os).cell? ⟨w.heap.size, 0, none⟩ = some (.float .f64 c.wt) := fun d os => (hca.regrown d os).c0
          have b1 : ∀ d os, (grow (redrawn wr d) os).cell? ⟨w.heap.size, 1, none⟩ = some (.float .f64 c.lo) := fun d os => (hca.regrown d os).c1
          have b2 : ∀ d os, (grow (redrawn wr d) os).cell? ⟨w.heap.size, 2, none⟩ = some (.float .f64 c.de) := fun d os => (hca.regrown d os).c2
          have b3 : ∀ d os, (grow (redrawn wr d) os).cell? ⟨w.heap.size, 3, none⟩ = some (.int .i64 c.ho) := fun d os => (hca.regrown d os).c3
          have b4 : ∀ d os, (grow (redrawn wr d) os).cell? ⟨w.heap.size, 4, none⟩ = some (.int .i64 c.st) := fun d os => (hca.regrown d os).c4
          have b5 : ∀ d os, (grow (redrawn wr d) os).cell? ⟨w.heap.size, 5, none⟩ = some (.int .i64 c.pr) := fun d os => (hca.regrown d os).c5
          have Ha : Hid (a = ks.getD k 0) := ha
          have Hx : Hid (x = ls.getD a d) := hx
          have Hs : Hid _ := hsucc
          clear ha hx hxa hca hsucc
          obtain ⟨F, hF⟩ : ∃ F, F = leftL ls d c (ks.take k) := ⟨_, rfl⟩
          rw [← hF] at hown hml Hs ⊢
          have HF : Hid _ := hF
          clear hF
          by_cases hd : asGoodB c x = true
          · go_wp2_with fail
            refine wp_region_quiet_below (by kernel_rfl) (by kernel_rfl) ?_
            repeat (quiet_step ((go_at_call 33; exact Calls.regrown_of (asGood_eq _ _ _ hd _))))
            refine wpQuiet_nil ?_
            intro _ hw'
            obtain ⟨⟨dq, osq⟩, hw''⟩ := hw'
            subst hw''
            go_wp2
            go_roundw
            case rel =>
              have e : leftL ls d c (ks.take (k + 1)) = F := by rw [Hs.out, if_pos hd, List.append_nil]
              exact ⟨k + 1, by omega, by go_num, by rw [e], by rw [e]; exact hown.below (below_regrown wr dq osq), hbut.trans (But.of_below (below_regrown wr dq osq))⟩
            case measure => simp [intOf]; omega
          · have hd' : asGoodB c x = false := by simpa using hd
            clear hd
            go_wp2_with fail
            refine wp_region_quiet_below (by kernel_rfl) (by kernel_rfl) ?_
            repeat (quiet_step ((go_at_call 33; exact Calls.regrown_of (asGood_eq _ _ _ hd' _))))
            refine wpQuiet_nil ?_
            intro _ hw'
            obtain ⟨⟨dq, osq⟩, hw''⟩ := hw'
            subst hw''
            have hbw := below_regrown wr dq osq
            have hown' := hown.below hbw
            generalize grow (redrawn wr dq) osq = wq at *
            clear cp e0 e1 e2 e3 e4 e5 b0 b1 b2 b3 b4 b5 cg
            go_wp2_with (at_builtin; go_must (refine wpList_append_exact _ rfl (.tmp 56) (.tmp 58) 39 rfl 3 i3 (.int .i64 0) 1 8 Try.underlying39 hi3 hy0 hy1 hy2 rfl (.slice (some ⟨g, 0, none⟩) F.length capk) F.length capk (F.map intv ++ csk.drop F.length) rfl (hown'.below ((Below.refl _ _).alloc (Nat.le_refl _) _)) ⟨wq.heap.size, 0, none⟩ 1 [.int .i64 a] rfl rfl (news_one _ _ _ _ rfl) (ints_oneCell .i64 [(a : Int)]) (by unfold maxLen; omega) (by omega) ?_); intro gk capk' wy csk' hap)
            rcases hap.ways with ⟨_, hgk, hce, hcs⟩ | ⟨hx, _⟩
            case inr => omega
            have hgk' : g = gk := by simpa [Value.ownBlock] using hgk
            clear hgk
            subst hgk'
            subst hce
            have hown2 := hap.own
            have hbut2 : But (fun q => q = g) W2 wy := (hbut.trans ((But.of_below hbw).alloc _)).trans (But.of_grown hap.grow (fun q hq => by simpa [Value.ownBlock, eq_comm] using hq))
            have hcs' : csk' = (F ++ [a]).map intv ++ csk.drop (F ++ [a]).length := by
              rw [hcs]
              have e1 : (F.map intv ++ csk.drop F.length).take (F.length * 1) = F.map intv := by
                rw [List.take_append_of_le_length (by simp), List.take_of_length_le (by simp)]
              have e2 : (F.map intv ++ csk.drop F.length).drop ((F.length + 1) * 1) = csk.drop (F.length + 1) := by
                rw [List.drop_append, List.drop_of_length_le (by simp)]
                simp
              rw [e1, e2]; simp [intv]
            rw [hcs'] at hown2
            have Hown2 : Hid _ := hown2
            clear hap hcs hcs' hown hown' hown2
            go_wp2
            go_roundw
            case rel =>
              have e : leftL ls d c (ks.take (k + 1)) = F ++ [a] := by rw [Hs.out, if_neg (by simp [hd'])]
              have el : (F ++ [a]).length = F.length + 1 := by simp
              exact ⟨k + 1, by omega, by go_num, by rw [e, el], by rw [e, el]; rw [el] at Hown2; exact Hown2.out, hbut2⟩
            case measure => simp [intOf]; omega
        · obtain rfl : nk = k := by omega
          have hks : ks.take nk = ks := List.take_of_length_le (by omega)
          rw [hks] at hown hml ⊢
          clear hks
          have hca : LabAt wr w.heap.size 0 c := labAt_of_block hB3
          have b0 : wr.cell? ⟨w.heap.size, 0, none⟩ = _ := hca.c0
          have b1 : wr.cell? ⟨w.heap.size, 1, none⟩ = _ := hca.c1
          have b2 : wr.cell? ⟨w.heap.size, 2, none⟩ = _ := hca.c2
          have b3 : wr.cell? ⟨w.heap.size, 3, none⟩ = _ := hca.c3
          have b4 : wr.cell? ⟨w.heap.size, 4, none⟩ = _ := hca.c4
          have b5 : wr.cell? ⟨w.heap.size, 5, none⟩ = _ := hca.c5
          clear hca
          obtain ⟨F, hF⟩ : ∃ F, F = leftL ls d c ks := ⟨_, rfl⟩
          rw [← hF] at hown hml ⊢
          have HF : Hid _ := hF
          clear hF
          go_wp2_with (go_at_call 42; refine (add_any _ _ _ _ _ _ _ (Value.slice (some ⟨gl, 0, none⟩) nl capl) _ _ nl capl F.length capk csl _ _ hp3 hl3 hown bl (by omega)).mono ?_; rintro e w' ⟨gl', capl', csl', gk, capk', csk', rfl, hpost⟩)
          go_ret
          have hb3 : But (fun k => k = pw ∨ (Value.slice (some ⟨gl, 0, none⟩) nl capl).ownBlock = some k ∨ (Value.slice (some ⟨g, 0, none⟩) nk capk).ownBlock = some k) w wr := (hb2.mono (fun k hk => .inl hk)).trans (hbut.mono (fun k hk => .inr (.inr (by simp [Value.ownBlock, hk]))))
          refine .inr ⟨Hno.out, gl', capl', csl', gk, capk', csk', ?_, ?_⟩
          · rw [← HF.out]; simp
          · rw [← HF.out]; exact keep_post (vk2 := .slice (some ⟨g, 0, none⟩) F.length capk) hb3 rfl hpost

set_option maxRecDepth 100000 in
set_option maxHeartbeats 1600000 in
theorem keep_nil (pw : Nat) (c : Lab) (st : Int) (vl : Value) (nl capl : Nat) (csl csk : List Value) (ls : List Lab) (d : Lab) (w : World)
    (hp : w.heap[pw]? = some (.cells #[vl, .int .i64 st] 64 (0, 0))) (hl : Own w 45 6 vl nl capl csl) (hk : Own w 3 1 (.slice none 0 0) 0 0 csk) (bl : nl ≤ 2097152) :
    Calls Try.prog 32 #[.pointer (some ⟨pw, 0, none⟩), .slice none 0 0, .agg #[.float .f64 c.wt, .float .f64 c.lo, .float .f64 c.de, .int .i64 c.ho, .int .i64 c.st, .int .i64 c.pr]] w fun e w' =>
      ∃ gl' capl' csl' gk capk' csk', e = .returned (.slice (some ⟨gk, 0, none⟩) (0 + 1) capk') ∧ KeepPost w pw vl (.slice none 0 0) st nl 0 0 csl csk c [] gl' capl' csl' gk capk' csk' w' := by
  have c0 : w.cell? ⟨pw, 0, none⟩ = some vl := by rw [cell_of_row w pw 0 _ _ _ hp]; rfl
  have c1 : w.cell? ⟨pw, 1, none⟩ = some (.int .i64 st) := by rw [cell_of_row w pw 1 _ _ _ hp]; rfl
  have f1 : w.frozen? ⟨pw, 1, none⟩ = false := frozen_of_row w pw 1 _ _ hp
  have lp := World.block_lt_of_cell? w _ c0
  go_enter Try.func32, Try.ntmps32
  go_wp2_with fail
  have hB1 : ((w.setCell ⟨pw, 1, none⟩ (.int .i64 (wrap64 (st)))).alloc (.cells #[.float .f64 c.wt, .float .f64 c.lo, .float .f64 c.de, .int .i64 c.ho, .int .i64 c.st, .int .i64 c.pr] 45)).heap[w.heap.size]? = some (.cells #[.float .f64 c.wt, .float .f64 c.lo, .float .f64 c.de, .int .i64 c.ho, .int .i64 c.st, .int .i64 c.pr] 45 (0, 0)) := by
    have := Go.heap_alloc_new (w.setCell ⟨pw, 1, none⟩ (.int .i64 (wrap64 (st)))) (.cells #[.float .f64 c.wt, .float .f64 c.lo, .float .f64 c.de, .int .i64 c.ho, .int .i64 c.st, .int .i64 c.pr] 45)
    simpa [World.setCell] using this
  have hp1 : ((w.setCell ⟨pw, 1, none⟩ (.int .i64 (wrap64 (st)))).alloc (.cells #[.float .f64 c.wt, .float .f64 c.lo, .float .f64 c.de, .int .i64 c.ho, .int .i64 c.st, .int .i64 c.pr] 45)).heap[pw]? = some (.cells #[vl, .int .i64 (wrap64 (st))] 64 (0, 0)) := by
    rw [Go.heap_alloc_old _ _ (by simpa [World.setCell] using lp), heap_setCell_same w pw 1 _ _ _ hp]; rfl
  have hb1 : But (fun k => k = pw) w ((w.setCell ⟨pw, 1, none⟩ (.int .i64 (wrap64 (st)))).alloc (.cells #[.float .f64 c.wt, .float .f64 c.lo, .float .f64 c.de, .int .i64 c.ho, .int .i64 c.st, .int .i64 c.pr] 45)) := ((But.refl (fun k => k = pw) w).setCell (p := ⟨pw, 1, none⟩) (.inl rfl) _).alloc _
  have hl1 := hl.but hb1 (fun k e => e ▸ hl.ne hp (by decide))
  have hk1 := hk.but hb1 (fun k e => e ▸ hk.ne hp (by decide))
  generalize ((w.setCell ⟨pw, 1, none⟩ (.int .i64 (wrap64 (st)))).alloc (.cells #[.float .f64 c.wt, .float .f64 c.lo, .float .f64 c.de, .int .i64 c.ho, .int .i64 c.st, .int .i64 c.pr] 45)) = W1 at *
  clear hp hl hk c0 c1 f1
  have hca : LabAt W1 w.heap.size 0 c := labAt_of_block hB1
  have b0 : W1.cell? ⟨w.heap.size, 0, none⟩ = _ := hca.c0
  have b1 : W1.cell? ⟨w.heap.size, 1, none⟩ = _ := hca.c1
  have b2 : W1.cell? ⟨w.heap.size, 2, none⟩ = _ := hca.c2
  have b3 : W1.cell? ⟨w.heap.size, 3, none⟩ = _ := hca.c3
  have b4 : W1.cell? ⟨w.heap.size, 4, none⟩ = _ := hca.c4
  have b5 : W1.cell? ⟨w.heap.size, 5, none⟩ = _ := hca.c5
  clear hca
  refine wp_loop_once ?_
  go_wp2_with fail
  refine wp_loop_once ?_
  go_wp2_with (go_at_call 42; refine (add_any _ _ _ _ _ _ _ vl _ _ nl capl 0 0 csl csk _ hp1 hl1 hk1 bl (by omega)).mono ?_; rintro e w' ⟨gl', capl', csl', gk, capk', csk', rfl, hpost⟩)
  go_ret
  refine ⟨gl', capl', csl', gk, capk', csk', rfl, ?_⟩
  refine keep_post (vk2 := .slice none 0 0) (F := []) (hb1.mono (fun k hk => .inl hk)) rfl ?_
  simpa [labCells] using hpost

set_option maxRecDepth 100000 in
set_option maxHeartbeats 1600000 in
theorem keep_row (g capk : Nat) (pw : Nat) (c : Lab) (st : Int) (vl : Value) (nl capl : Nat) (csl csk : List Value) (ls : List Lab) (d : Lab) (w : World)
    (hp : w.heap[pw]? = some (.cells #[vl, .int .i64 st] 64 (0, 0))) (hl : Own w 45 6 vl nl capl csl) (hk : Own w 3 1 (.slice (some ⟨g, 0, none⟩) 0 capk) 0 capk csk) (bl : nl ≤ 2097152) :
    Calls Try.prog 32 #[.pointer (some ⟨pw, 0, none⟩), .slice (some ⟨g, 0, none⟩) 0 capk, .agg #[.float .f64 c.wt, .float .f64 c.lo, .float .f64 c.de, .int .i64 c.ho, .int .i64 c.st, .int .i64 c.pr]] w fun e w' =>
      ∃ gl' capl' csl' gk capk' csk', e = .returned (.slice (some ⟨gk, 0, none⟩) (0 + 1) capk') ∧ KeepPost w pw vl (.slice (some ⟨g, 0, none⟩) 0 capk) st nl 0 capk csl csk c [] gl' capl' csl' gk capk' csk' w' := by
  have c0 : w.cell? ⟨pw, 0, none⟩ = some vl := by rw [cell_of_row w pw 0 _ _ _ hp]; rfl
  have c1 : w.cell? ⟨pw, 1, none⟩ = some (.int .i64 st) := by rw [cell_of_row w pw 1 _ _ _ hp]; rfl
  have f1 : w.frozen? ⟨pw, 1, none⟩ = false := frozen_of_row w pw 1 _ _ hp
  have lp := World.block_lt_of_cell? w _ c0
  go_enter Try.func32, Try.ntmps32
  go_wp2_with fail
  have hB1 : ((w.setCell ⟨pw, 1, none⟩ (.int .i64 (wrap64 (st)))).alloc (.cells #[.float .f64 c.wt, .float .f64 c.lo, .float .f64 c.de, .int .i64 c.ho, .int .i64 c.st, .int .i64 c.pr] 45)).heap[w.heap.size]? = some (.cells #[.float .f64 c.wt, .float .f64 c.lo, .float .f64 c.de, .int .i64 c.ho, .int .i64 c.st, .int .i64 c.pr] 45 (0, 0)) := by
    have := Go.heap_alloc_new (w.setCell ⟨pw, 1, none⟩ (.int .i64 (wrap64 (st)))) (.cells #[.float .f64 c.wt, .float .f64 c.lo, .float .f64 c.de, .int .i64 c.ho, .int .i64 c.st, .int .i64 c.pr] 45)
    simpa [World.setCell] using this
  have hp1 : ((w.setCell ⟨pw, 1, none⟩ (.int .i64 (wrap64 (st)))).alloc (.cells #[.float .f64 c.wt, .float .f64 c.lo, .float .f64 c.de, .int .i64 c.ho, .int .i64 c.st, .int .i64 c.pr] 45)).heap[pw]? = some (.cells #[vl, .int .i64 (wrap64 (st))] 64 (0, 0)) := by
    rw [Go.heap_alloc_old _ _ (by simpa [World.setCell] using lp), heap_setCell_same w pw 1 _ _ _ hp]; rfl
  have hb1 : But (fun k => k = pw) w ((w.setCell ⟨pw, 1, none⟩ (.int .i64 (wrap64 (st)))).alloc (.cells #[.float .f64 c.wt, .float .f64 c.lo, .float .f64 c.de, .int .i64 c.ho, .int .i64 c.st, .int .i64 c.pr] 45)) := ((But.refl (fun k => k = pw) w).setCell (p := ⟨pw, 1, none⟩) (.inl rfl) _).alloc _
  have hl1 := hl.but hb1 (fun k e => e ▸ hl.ne hp (by decide))
  have hk1 := hk.but hb1 (fun k e => e ▸ hk.ne hp (by decide))
  generalize ((w.setCell ⟨pw, 1, none⟩ (.int .i64 (wrap64 (st)))).alloc (.cells #[.float .f64 c.wt, .float .f64 c.lo, .float .f64 c.de, .int .i64 c.ho, .int .i64 c.st, .int .i64 c.pr] 45)) = W1 at *
  clear hp hl hk c0 c1 f1
  have hca : LabAt W1 w.heap.size 0 c := labAt_of_block hB1
  have b0 : W1.cell? ⟨w.heap.size, 0, none⟩ = _ := hca.c0
  have b1 : W1.cell? ⟨w.heap.size, 1, none⟩ = _ := hca.c1
  have b2 : W1.cell? ⟨w.heap.size, 2, none⟩ = _ := hca.c2
  have b3 : W1.cell? ⟨w.heap.size, 3, none⟩ = _ := hca.c3
  have b4 : W1.cell? ⟨w.heap.size, 4, none⟩ = _ := hca.c4
  have b5 : W1.cell? ⟨w.heap.size, 5, none⟩ = _ := hca.c5
  clear hca
  refine wp_loop_once ?_
  go_wp2_with fail
  refine wp_loop_once ?_
  go_wp2_with (go_at_call 42; refine (add_any _ _ _ _ _ _ _ vl _ _ nl capl 0 capk csl csk _ hp1 hl1 hk1 bl (by omega)).mono ?_; rintro e w' ⟨gl', capl', csl', gk, capk', csk', rfl, hpost⟩)
  go_ret
  refine ⟨gl', capl', csl', gk, capk', csk', rfl, ?_⟩
  refine keep_post (vk2 := .slice (some ⟨g, 0, none⟩) 0 capk) (F := []) (hb1.mono (fun k hk => .inl hk)) rfl ?_
  simpa [labCells] using hpost

theorem keep_any (pw : Nat) (c : Lab) (st : Int) (vl vk : Value) (nl capl nk capk : Nat) (csl csk : List Value) (ls : List Lab) (d : Lab) (ks : List Nat) (w : World)
    (hp : w.heap[pw]? = some (.cells #[vl, .int .i64 st] 64 (0, 0))) (hl : Own w 45 6 vl nl capl csl) (hk : Own w 3 1 vk nk capk csk) (bl : nl ≤ 2097152) (bk : nk ≤ 2097152)
    (hfl : csl.take (nl * 6) = flat ls) (hln : ls.length = nl) (hfk : csk.take nk = ks.map intv) (hkn : ks.length = nk) (hin : ∀ a ∈ ks, a < nl) :
    Calls Try.prog 32 #[.pointer (some ⟨pw, 0, none⟩), vk, .agg #[.float .f64 c.wt, .float .f64 c.lo, .float .f64 c.de, .int .i64 c.ho, .int .i64 c.st, .int .i64 c.pr]] w fun e w' =>
      (hitB ls d c ks = true ∧ e = .returned vk ∧ w'.heap[pw]? = some (.cells #[vl, .int .i64 (wrap64 (st + nk))] 64 (0, 0)) ∧ But (fun k => k = pw) w w') ∨ (hitB ls d c ks = false ∧ ∃ gl' capl' csl' gk capk' csk', e = .returned (.slice (some ⟨gk, 0, none⟩) ((leftL ls d c ks).length + 1) capk') ∧ KeepPost w pw vl vk st nl nk capk csl csk c (leftL ls d c ks) gl' capl' csl' gk capk' csk' w') := by
  by_cases h0 : nk = 0
  · subst h0
    have hks : ks = [] := List.eq_nil_of_length_eq_zero hkn
    subst hks
    rcases hk.2.2.2 with ⟨rfl, _, rfl⟩ | ⟨g, rfl, _⟩
    · exact (keep_nil pw c st vl nl capl csl csk ls d w hp hl hk bl).mono fun e w' h => .inr ⟨rfl, h⟩
    · exact (keep_row g capk pw c st vl nl capl csl csk ls d w hp hl hk bl).mono fun e w' h => .inr ⟨rfl, h⟩
  · obtain ⟨g, rfl⟩ : ∃ g, vk = .slice (some ⟨g, 0, none⟩) nk capk := by
      rcases hk.2.2.2 with ⟨_, h, _⟩ | ⟨g, h, _⟩
      · exact absurd h h0
      · exact ⟨g, h⟩
    obtain ⟨gl, rfl⟩ : ∃ gl, vl = .slice (some ⟨gl, 0, none⟩) nl capl := by
      rcases hl.2.2.2 with ⟨_, h, _⟩ | ⟨g, h, _⟩
      · have hlt : 0 < ks.length := by omega
        have := hin ks[0] (List.getElem_mem hlt)
        omega
      · exact ⟨g, h⟩
    exact keep_full pw g gl c st nl capl nk capk csl csk ls d ks w hp hl hk bl bk hfl hln hfk hkn hin

theorem zzKeep_hit (pw : Nat) (c : Lab) (st : Int) (vl vk : Value) (nl capl nk capk : Nat) (csl csk : List Value) (ls : List Lab) (d : Lab) (ks : List Nat) (w : World)
    (hp : w.heap[pw]? = some (.cells #[vl, .int .i64 st] 64 (0, 0))) (hl : Own w 45 6 vl nl capl csl) (hk : Own w 3 1 vk nk capk csk) (bl : nl ≤ 2097152) (bk : nk ≤ 2097152)
    (hfl : csl.take (nl * 6) = flat ls) (hln : ls.length = nl) (hfk : csk.take nk = ks.map intv) (hkn : ks.length = nk) (hin : ∀ a ∈ ks, a < nl) (hh : hitB ls d c ks = true) :
    Calls Try.prog 20 #[.pointer (some ⟨pw, 0, none⟩), vk, .agg #[.float .f64 c.wt, .float .f64 c.lo, .float .f64 c.de, .int .i64 c.ho, .int .i64 c.st, .int .i64 c.pr]] w fun e w' => e = .returned vk ∧ w'.heap[pw]? = some (.cells #[vl, .int .i64 (wrap64 (st + nk))] 64 (0, 0)) ∧ But (fun k => k = pw) w w' := by
  have hB : Below w.heap.size w (w.alloc (.cells #[.float .f64 c.wt, .float .f64 c.lo, .float .f64 c.de, .int .i64 c.ho, .int .i64 c.st, .int .i64 c.pr] 45)) := (Below.refl _ _).alloc (Nat.le_refl _) _
  have hp' := (hB.block pw (Array.getElem?_eq_some_iff.1 hp).1).trans hp
  go_enter Try.func20, Try.ntmps20
  go_wp2_with (go_at_call 32; refine (keep_any pw c st vl vk nl capl nk capk csl csk ls d ks _ hp' (hl.below hB) (hk.below hB) bl bk hfl hln hfk hkn hin).mono ?_; rintro e w' hor; obtain ⟨_, rfl, hpp, hbb⟩ := hor.resolve_right (by simp [hh]))
  go_ret
  exact ⟨rfl, hpp, (But.of_below hB).trans hbb⟩

theorem zzKeep_miss (pw : Nat) (c : Lab) (st : Int) (vl vk : Value) (nl capl nk capk : Nat) (csl csk : List Value) (ls : List Lab) (d : Lab) (ks : List Nat) (w : World)
    (hp : w.heap[pw]? = some (.cells #[vl, .int .i64 st] 64 (0, 0))) (hl : Own w 45 6 vl nl capl csl) (hk : Own w 3 1 vk nk capk csk) (bl : nl ≤ 2097152) (bk : nk ≤ 2097152)
    (hfl : csl.take (nl * 6) = flat ls) (hln : ls.length = nl) (hfk : csk.take nk = ks.map intv) (hkn : ks.length = nk) (hin : ∀ a ∈ ks, a < nl) (hh : hitB ls d c ks = false) :
    Calls Try.prog 20 #[.pointer (some ⟨pw, 0, none⟩), vk, .agg #[.float .f64 c.wt, .float .f64 c.lo, .float .f64 c.de, .int .i64 c.ho, .int .i64 c.st, .int .i64 c.pr]] w fun e w' => ∃ gl' capl' csl' gk capk' csk', e = .returned (.slice (some ⟨gk, 0, none⟩) ((leftL ls d c ks).length + 1) capk') ∧ KeepPost w pw vl vk st nl nk capk csl csk c (leftL ls d c ks) gl' capl' csl' gk capk' csk' w' := by
  have hB : Below w.heap.size w (w.alloc (.cells #[.float .f64 c.wt, .float .f64 c.lo, .float .f64 c.de, .int .i64 c.ho, .int .i64 c.st, .int .i64 c.pr] 45)) := (Below.refl _ _).alloc (Nat.le_refl _) _
  have hp' := (hB.block pw (Array.getElem?_eq_some_iff.1 hp).1).trans hp
  go_enter Try.func20, Try.ntmps20
  go_wp2_with (go_at_call 32; refine (keep_any pw c st vl vk nl capl nk capk csl csk ls d ks _ hp' (hl.below hB) (hk.below hB) bl bk hfl hln hfk hkn hin).mono ?_; rintro e w' hor; obtain ⟨_, gl', capl', csl', gk, capk', csk', rfl, hpo⟩ := hor.resolve_left (by simp [hh]))
  go_ret
  exact ⟨gl', capl', csl', gk, capk', csk', rfl, hpo.ptr, hpo.lab, hpo.ltk, hpo.kep, hpo.ktk, (But.of_below hB).trans hpo.but, hpo.old, hpo.lloc.elim .inl (fun h => .inr (Nat.le_trans hB.size h)), hpo.kloc.elim .inl (fun h => .inr (Nat.le_trans hB.size h))⟩

end Go.Proofs.Qxb6601457a
