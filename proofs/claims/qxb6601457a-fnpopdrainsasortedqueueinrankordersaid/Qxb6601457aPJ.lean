import Derived.Test.Qxb6601457aPI
namespace Go.Proofs.Qxb6601457a
set_option linter.unusedSimpArgs false
set_option linter.unusedVariables false
open Go.RowKit Go.Sort
attribute [local go_sem] run_store_float

theorem heap_of_srt {S : List Ent} {n : Nat} (hl : S.length = n) (hs : srt S) (hn : ∀ x ∈ S, nn x) : Heap S n := by
  intro j j1 j2
  have gx := eg_get (l := S) (j := j) (by omega)
  have gy := eg_get (l := S) (j := (j - 1) / 2) (by omega)
  have nx := hn _ (List.mem_of_getElem? gx)
  have ny := hn _ (List.mem_of_getElem? gy)
  have hk := srt_get hs (show (j - 1) / 2 < j by omega) gy gx
  cases h : rlt (eg S j) (eg S ((j - 1) / 2)) with
  | false => rfl
  | true =>
    rw [← rl_rlt nx ny] at h
    rw [klt_of_rl nx ny h] at hk
    cases hk

set_option maxRecDepth 100000 in
set_option maxHeartbeats 3200000 in
theorem f4_tail5 {u1 u2 u4 u5 u6 u7 u8 u9 u10 u11 u12 u13 u14 u15 u16 u17 u18 u19 u20 u21 u22 u23 u24 u25 u26 u27 u28 u29 u30 u31 u32 u33 u34 u35 u36 u37 u38 u39 u40 u41 u42 u43 u44 u45 u46 u47 u48 u49 u50 u51 u52 u53 u54 u55 u56 u57 u58 u59 u60 u61 u62 u63 u64 u65 u66 u67 u68 u69 u70 u71 u72 u73 u74 u75 u76 u77 u78 u79 u80 u81 u82 u83 u84 u85 u86 u87 u88 u89 u90 u91 u92 : Value} {W0 w : World} {n c b o : Nat} {a : Option Addr} {h : List Ent} {gs : Nat} {S : List Ent} (hW : Below W0.heap.size W0 w) (bn : n ≤ 32768) (E : Ents W0 a n b o h) (nh : ∀ x ∈ h, nn x) (GS : RowE w gs 27 S) (hS : S.length = n) (hsb : SB S h) (hp : Heap S n) :
    Code.wp Try.prog (dropSeq 5 (Try.f4.body.getD .skip)) (bodyPost Try.prog Try.f4 fun e w' => e = .returned (.bool true) ∧ Below W0.heap.size W0 w')
      ⟨List.toArray ((.slice a n c) :: u1 :: u2 :: (.slice (some ⟨gs, 0, none⟩) n n) :: u4 :: u5 :: u6 :: u7 :: u8 :: u9 :: u10 :: u11 :: u12 :: u13 :: u14 :: u15 :: u16 :: u17 :: u18 :: u19 :: u20 :: u21 :: u22 :: u23 :: u24 :: u25 :: u26 :: u27 :: u28 :: u29 :: u30 :: u31 :: u32 :: u33 :: u34 :: u35 :: u36 :: u37 :: u38 :: u39 :: u40 :: u41 :: u42 :: u43 :: u44 :: u45 :: u46 :: u47 :: u48 :: u49 :: u50 :: u51 :: u52 :: u53 :: u54 :: u55 :: u56 :: u57 :: u58 :: u59 :: u60 :: u61 :: u62 :: u63 :: u64 :: u65 :: u66 :: u67 :: u68 :: u69 :: u70 :: u71 :: u72 :: u73 :: u74 :: u75 :: u76 :: u77 :: u78 :: u79 :: u80 :: u81 :: u82 :: u83 :: u84 :: u85 :: u86 :: u87 :: u88 :: u89 :: u90 :: u91 :: u92 :: []), []⟩ w := by
  obtain ⟨i31, hi31, hz0, hz1, hz2⟩ := info_parts Try.info31
  have r1 := RowE.made w 31 n
  have B1 : Below w.heap.size w (w.alloc (.cells (madeCells #[.int .i64 0, .float .f64 0, .float .f64 0, .int .i64 0] (n * 4)) 31)) := (Below.refl _ _).alloc (Nat.le_refl _) _
  have r2 := r1.below ((Below.refl _ _).alloc (Nat.le_refl _) (.cells #[.slice (some ⟨w.heap.size, 0, none⟩) 0 n] 29))
  have q2 := heap_second w (.cells (madeCells #[.int .i64 0, .float .f64 0, .float .f64 0, .int .i64 0] (n * 4)) 31) (.cells #[.slice (some ⟨w.heap.size, 0, none⟩) 0 n] 29)
  have B2 : Below w.heap.size w ((w.alloc (.cells (madeCells #[.int .i64 0, .float .f64 0, .float .f64 0, .int .i64 0] (n * 4)) 31)).alloc (.cells #[.slice (some ⟨w.heap.size, 0, none⟩) 0 n] 29)) := B1.alloc (by simp) _
  have hgs := GS.lt
  have HR : Hid _ := r2
  have HQ : Hid _ := q2
  have HB : Hid _ := B2
  have HS : Hid _ := GS.below B2
  have HE : Hid _ := E
  have HN : Hid _ := nh
  have HSB : Hid _ := hsb
  have HP : Hid _ := hp
  have hs := hW.size
  clear E nh hp hsb r1 r2 q2 B1 B2 GS
  go_step
  refine wp_drop 5 _ (by kernel_rfl) (fun K hK => ?_)
  conv => arg 2; whnf
  go_wp2_with (at_make; go_must (refine wpList_make_exact _ rfl _ _ 29 rfl 31 i31 (.agg #[.int .i64 0, .float .f64 0, .float .f64 0, .int .i64 0]) 4 Try.underlying29 hi31 hz0 hz1 .i64 .i64 _ _ 0 n rfl rfl rfl rfl (Nat.zero_le _) (by rw [hz2]; omega) (by unfold maxLen; omega) ?_))
  exact f4_tail6 (hW.trans (HB.out.mono hs)) bn HE.out HN.out HQ.out HR.out HS.out hS (by omega) (by omega) (by omega) (by omega) hs HSB.out HP.out

set_option maxRecDepth 100000 in
set_option maxHeartbeats 3200000 in
theorem f4_tail4 {u1 u2 u3 u4 u5 u6 u7 u8 u9 u10 u11 u12 u13 u14 u15 u16 u17 u18 u19 u20 u21 u22 u23 u24 u25 u26 u27 u28 u29 u30 u31 u32 u33 u34 u35 u36 u37 u38 u39 u40 u41 u42 u43 u44 u45 u46 u47 u48 u49 u50 u51 u52 u53 u54 u55 u56 u57 u58 u59 u60 u61 u62 u63 u64 u65 u66 u67 u68 u69 u70 u71 u72 u73 u74 u75 u76 u77 u78 u79 u80 u81 u82 u83 u84 u85 u86 u87 u88 u89 u90 u91 u92 : Value} {W0 w : World} {n c b o : Nat} {a : Option Addr} {h : List Ent}  (hW : Below W0.heap.size W0 w) (bn : n ≤ 32768) (E : Ents W0 a n b o h) (nh : ∀ x ∈ h, nn x)  :
    Code.wp Try.prog (dropSeq 4 (Try.f4.body.getD .skip)) (bodyPost Try.prog Try.f4 fun e w' => e = .returned (.bool true) ∧ Below W0.heap.size W0 w')
      ⟨List.toArray ((.slice a n c) :: u1 :: u2 :: u3 :: u4 :: u5 :: u6 :: u7 :: u8 :: u9 :: u10 :: u11 :: u12 :: u13 :: u14 :: u15 :: u16 :: u17 :: u18 :: u19 :: u20 :: u21 :: u22 :: u23 :: u24 :: u25 :: u26 :: u27 :: u28 :: u29 :: u30 :: u31 :: u32 :: u33 :: u34 :: u35 :: u36 :: u37 :: u38 :: u39 :: u40 :: u41 :: u42 :: u43 :: u44 :: u45 :: u46 :: u47 :: u48 :: u49 :: u50 :: u51 :: u52 :: u53 :: u54 :: u55 :: u56 :: u57 :: u58 :: u59 :: u60 :: u61 :: u62 :: u63 :: u64 :: u65 :: u66 :: u67 :: u68 :: u69 :: u70 :: u71 :: u72 :: u73 :: u74 :: u75 :: u76 :: u77 :: u78 :: u79 :: u80 :: u81 :: u82 :: u83 :: u84 :: u85 :: u86 :: u87 :: u88 :: u89 :: u90 :: u91 :: u92 :: []), []⟩ w := by
  have HE : Hid _ := E.below hW
  have HE0 : Hid _ := E
  have HN : Hid _ := nh
  have hl := E.len
  clear E nh
  go_step
  refine wp_drop 4 _ (by kernel_rfl) (fun K hK => ?_)
  conv => arg 2; whnf
  go_wp2_with (go_at_call 16; go_must (refine (sort_any a n c b o h _ bn HE.out HN.out).mono ?_); rintro e wx ⟨g, m, rfl, hres, hg, hb⟩; have HRES : Hid _ := hres; clear hres)
  have hlm : m.length = n := by rw [HRES.out.2.1.length]; exact hl
  exact f4_tail5 (hW.trans (hb.mono hW.size)) bn HE0.out HN.out HRES.out.1 hlm HRES.out.2.1 (heap_of_srt hlm HRES.out.2.2 (SB.all (SB.symm HRES.out.2.1) HN.out))

set_option maxRecDepth 100000 in
set_option maxHeartbeats 3200000 in
theorem law4 (a : Option Addr) (N c b o : Nat) (h : List Ent) (w : World) (hN : N ≤ 9223372036854775807) (hc : N ≤ c) (E : Ents w a N b o h) :
    Calls Try.prog 4 #[.slice a N c] w fun e w' => e = .returned (.bool true) ∧ Below w.heap.size w w' := by
  by_cases h1 : N ≤ 1048576
  · have b1 : decide (N ≤ 1048576) = true := by simp [h1]
    by_cases h2 : N ≤ 32768
    · have HE : Hid _ := E
      have HB1 : Hid _ := b1
      have H2 : Hid _ := h2
      have HN0 : Hid _ := hN
      have h2' : (N : Int) ≤ 32768 := by omega
      clear E b1 h1 hN h2
      go_enter Try.func4, Try.ntmps4
      change Code.wp Try.prog (dropSeq 0 (Try.f4.body.getD .skip)) _ _ _
      refine wp_drop 0 _ (by kernel_rfl) (fun K hK => ?_)
      conv => arg 2; whnf
      go_wp2_with fail
      refine wp_drop 1 _ (by kernel_rfl) (fun K hK => ?_)
      conv => arg 2; whnf
      go_wp2_with (go_at_call 15; refine (bytes15_any a N c _ HN0.out).mono ?_; rintro e wx ⟨rfl, hwx⟩; subst hwx; rw [HB1.out])
      refine wp_drop 2 _ (by kernel_rfl) (fun K hK => ?_)
      conv => arg 2; whnf
      go_wp2_with fail
      refine wp_drop 3 _ (by kernel_rfl) (fun K hK => ?_)
      conv => arg 2; whnf
      go_wp2_with (go_at_call 8; go_must (refine (hasNan_any a N c b o h _ H2.out HE.out).mono ?_); rintro e wy ⟨r, rfl, hr, hb⟩; have HR : Hid _ := hr; clear hr; cases r)
      · have hl := (HE.out).len
        have nh : ∀ x ∈ h, nn x := by
          intro x hx
          obtain ⟨j, hj⟩ := List.mem_iff_getElem?.1 hx
          have hjl := (List.getElem?_eq_some_iff.1 hj).1
          have := HR.out trivial j (by omega)
          rw [eg_get hjl] at hj
          cases hj
          exact this
        exact f4_tail4 hb (by omega) HE.out nh
      · go_ret
        exact ⟨rfl, hb⟩
    · go_enter Try.func4, Try.ntmps4
      go_wp2_with (go_at_call 15; refine (bytes15_any a _ c _ hN).mono ?_; rintro e wx ⟨rfl, hwx⟩; subst hwx; rw [b1])
      all_goals first | (exfalso; omega) | (go_ret; exact ⟨rfl, Below.refl _ _⟩)
  · have b1 : decide (N ≤ 1048576) = false := by simp [h1]
    go_enter Try.func4, Try.ntmps4
    go_wp2_with (go_at_call 15; refine (bytes15_any a _ c _ hN).mono ?_; rintro e wx ⟨rfl, hwx⟩; subst hwx; rw [b1])
    go_ret
    exact ⟨rfl, Below.refl _ _⟩
end Go.Proofs.Qxb6601457a
