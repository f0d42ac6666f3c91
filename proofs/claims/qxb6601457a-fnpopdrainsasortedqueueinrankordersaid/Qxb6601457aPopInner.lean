import Derived.Test.Qxb6601457aPopMerge0
import Derived.Test.Qxb6601457aNav
namespace Go.Proofs.Qxb6601457a
set_option linter.unusedSimpArgs false
set_option linter.unusedVariables false
open Go.RowKit Go.Sort
attribute [local go_sem] run_store_float

set_option maxRecDepth 100000 in
set_option maxHeartbeats 3200000 in
theorem sort_inner {u0 u1 u2 u6 u12 u13 u14 u15 u16 u17 u18 u19 u20 u21 u22 u23 u24 u25 u26 u27 u28 u29 u30 u31 u32 u33 u34 u35 u36 u37 u38 u39 u40 u41 u42 u43 u44 u45 u46 u47 u48 u49 u50 u51 u52 u53 u54 u55 u56 u57 u58 u59 u60 u61 u62 u63 u64 u65 u66 u67 u68 u69 u70 u71 u72 u73 u74 u75 u76 u77 u78 u79 u80 u81 u82 u83 u84 u85 u86 u87 u88 u89 u90 u91 u92 u93 u94 u95 u96 u97 : Value} {Q : Exit → Act → World → Prop} {w0 wm : World} {n g1 g2 lo mid hi : Nat} {vm vh : Int} {src dst0 : List Ent} (hvm : vm = mid) (hvh : vh = hi)
    (bn : n ≤ 32768) (S : SortSt w0 wm n g1 g2 src dst0) (nnS : ∀ x ∈ src, nn x) (I : MInv src lo mid hi lo mid dst0 dst0)
    (hQ : ∀ (v10 v11 v12 v51 v52 v53 v54 v55 v56 v57 v58 v59 v60 v61 v62 v63 v64 v65 v66 v67 v68 v69 v70 v71 v72 v73 v74 v75 v76 v77 v78 v79 v80 v81 v82 v83 v84 v85 v86 v87 v88 v89 v90 v91 v92 v93 v94 : Value) (wr : World) (dst : List Ent), SortSt w0 wr n g1 g2 src dst → MInv src lo mid hi mid hi dst dst0 → Q .normal ⟨List.toArray (u0 :: u1 :: u2 :: (.int .i64 n) :: (.slice (some ⟨g1, 0, none⟩) n n) :: (.slice (some ⟨g2, 0, none⟩) n n) :: u6 :: (.int .i64 lo) :: (.int .i64 vm) :: (.int .i64 vh) :: v10 :: v11 :: v12 :: u13 :: u14 :: u15 :: u16 :: u17 :: u18 :: u19 :: u20 :: u21 :: u22 :: u23 :: u24 :: u25 :: u26 :: u27 :: u28 :: u29 :: u30 :: u31 :: u32 :: u33 :: u34 :: u35 :: u36 :: u37 :: u38 :: u39 :: u40 :: u41 :: u42 :: u43 :: u44 :: u45 :: u46 :: u47 :: u48 :: u49 :: u50 :: v51 :: v52 :: v53 :: v54 :: v55 :: v56 :: v57 :: v58 :: v59 :: v60 :: v61 :: v62 :: v63 :: v64 :: v65 :: v66 :: v67 :: v68 :: v69 :: v70 :: v71 :: v72 :: v73 :: v74 :: v75 :: v76 :: v77 :: v78 :: v79 :: v80 :: v81 :: v82 :: v83 :: v84 :: v85 :: v86 :: v87 :: v88 :: v89 :: v90 :: v91 :: v92 :: v93 :: v94 :: u95 :: u96 :: u97 :: []), []⟩ wr) :
    Code.wp Try.prog (dropSeq 6 (bodyOf (roundOf (cfst (bodyOf (roundOf (headSeq (dropSeq 5 (Try.f16.body.getD .skip))))))))) Q
      ⟨List.toArray (u0 :: u1 :: u2 :: (.int .i64 n) :: (.slice (some ⟨g1, 0, none⟩) n n) :: (.slice (some ⟨g2, 0, none⟩) n n) :: u6 :: (.int .i64 lo) :: (.int .i64 vm) :: (.int .i64 vh) :: (.int .i64 lo) :: (.int .i64 vm) :: u12 :: u13 :: u14 :: u15 :: u16 :: u17 :: u18 :: u19 :: u20 :: u21 :: u22 :: u23 :: u24 :: u25 :: u26 :: u27 :: u28 :: u29 :: u30 :: u31 :: u32 :: u33 :: u34 :: u35 :: u36 :: u37 :: u38 :: u39 :: u40 :: u41 :: u42 :: u43 :: u44 :: u45 :: u46 :: u47 :: u48 :: u49 :: u50 :: u51 :: u52 :: u53 :: u54 :: u55 :: u56 :: u57 :: u58 :: u59 :: u60 :: u61 :: u62 :: u63 :: u64 :: u65 :: u66 :: u67 :: u68 :: u69 :: u70 :: u71 :: u72 :: u73 :: u74 :: u75 :: u76 :: u77 :: u78 :: u79 :: u80 :: u81 :: u82 :: u83 :: u84 :: u85 :: u86 :: u87 :: u88 :: u89 :: u90 :: u91 :: u92 :: u93 :: u94 :: u95 :: u96 :: u97 :: []), []⟩ wm := by
  subst hvm
  subst hvh
  have HQ : Hid _ := hQ
  have HNN : Hid _ := nnS
  have hls := S.ls
  have hb5 := I.b5
  have hb2 := I.b2
  have hb4 := I.b4
  clear hQ nnS
  conv => arg 2; whnf
  go_wp2_with fail
  go_loopw [10, 11, 12] (fun a b c wr => ∃ (i j : Nat) (dst : List Ent), a = .int .i64 i ∧ b = .int .i64 j ∧ c = .int .i64 ((i + j - mid : Nat) : Int) ∧ SortSt w0 wr n g1 g2 src dst ∧ MInv src lo mid hi i j dst dst0) (fun a b c _ => hi - (intOf c).toNat)
  case atStart => exact ⟨lo, mid, dst0, rfl, rfl, by rw [Nat.add_sub_cancel], S, I⟩
  case round =>
    clear S I
    obtain ⟨i, j, dst, rfl, rfl, rfl, S, I⟩ := hrel
    have i1 := I.b1
    have i2 := I.b2
    have i3 := I.b3
    have i4 := I.b4
    have hld := S.ld
    generalize hk : i + j - mid = k
    by_cases hkh : k < hi
    · have hkn : k < n := by omega
      have HS : Hid _ := S
      clear S
      by_cases c1 : i < mid
      · obtain ⟨x, hx⟩ : ∃ x, x = eg src i := ⟨_, rfl⟩
        have gx : src[i]? = some x := by rw [hx]; exact eg_get (by omega)
        have HX : Hid _ := hx
        clear hx
        by_cases c2 : hi ≤ j
        · have HI : Hid _ := hk ▸ I.left c1 gx (fun y hy => by omega)
          clear I gx
          go_wp2_with fail
          refine wp_region_quiet_below (by kernel_rfl) (by kernel_rfl) ?_
          repeat (first | go_big_quiet_step (fail) | quiet_step (fail))
          refine wpQuiet_nil ?_
          intro _ hw'
          obtain ⟨⟨dq, osq⟩, hw''⟩ := hw'
          subst hw''
          have hbw := below_regrown wr dq osq
          generalize grow (redrawn wr dq) osq = wq at *
          have SQ := HS.out.below hbw
          have xq := SQ.r1.at (j := i) (by omega)
          rw [← HX.out] at xq
          have e0 := xq.c0
          have e1 := xq.c1
          have e2 := xq.c2
          have e3 := xq.c3
          have yq := SQ.r2.at (j := k) (by omega)
          generalize eg dst k = yy at yq
          have q0 := yq.c0
          have q1 := yq.c1
          have q2 := yq.c2
          have q3 := yq.c3
          have f0 := SQ.r2.frozen (k * 4)
          have f1 := SQ.r2.frozen (k * 4 + 1)
          have f2 := SQ.r2.frozen (k * 4 + 2)
          have f3 := SQ.r2.frozen (k * 4 + 3)
          clear xq yq SQ
          go_wp2
          go_roundw
          case rel => exact ⟨i + 1, j, dst.set k x, by go_num, rfl, by rw [show i + 1 + j - mid = k + 1 from by omega]; go_num, (HS.out.below hbw).store hkn x, HI.out⟩
          case measure => simp [intOf]; omega

        · obtain ⟨y, hy⟩ : ∃ y, y = eg src j := ⟨_, rfl⟩
          have gy : src[j]? = some y := by rw [hy]; exact eg_get (by omega)
          have HY : Hid _ := hy
          clear hy
          have nx := HNN.out x (List.mem_of_getElem? gx)
          have ny := HNN.out y (List.mem_of_getElem? gy)
          have hcmp := cmp_iff ny nx
          obtain ⟨z, hz⟩ : ∃ z, cmpE y x = z := ⟨_, rfl⟩
          rw [hz] at hcmp
          have HZ : Hid _ := hz
          clear hz nx ny
          have ax := HS.out.r1.at (j := i) (by omega)
          rw [← HX.out] at ax
          have ay := HS.out.r1.at (j := j) (by omega)
          rw [← HY.out] at ay
          have x0 : ∀ d os, (grow (redrawn wr d) os).cell? ⟨g1, i * 4, none⟩ = some (.int .i64 x.at_) := fun d os => (ax.regrown d os).c0
          have x1 : ∀ d os, (grow (redrawn wr d) os).cell? ⟨g1, i * 4 + 1, none⟩ = some (.float .f64 x.co) := fun d os => (ax.regrown d os).c1
          have x2 : ∀ d os, (grow (redrawn wr d) os).cell? ⟨g1, i * 4 + 2, none⟩ = some (.float .f64 x.de) := fun d os => (ax.regrown d os).c2
          have x3 : ∀ d os, (grow (redrawn wr d) os).cell? ⟨g1, i * 4 + 3, none⟩ = some (.int .i64 x.ho) := fun d os => (ax.regrown d os).c3
          have y0 : ∀ d os, (grow (redrawn wr d) os).cell? ⟨g1, j * 4, none⟩ = some (.int .i64 y.at_) := fun d os => (ay.regrown d os).c0
          have y1 : ∀ d os, (grow (redrawn wr d) os).cell? ⟨g1, j * 4 + 1, none⟩ = some (.float .f64 y.co) := fun d os => (ay.regrown d os).c1
          have y2 : ∀ d os, (grow (redrawn wr d) os).cell? ⟨g1, j * 4 + 2, none⟩ = some (.float .f64 y.de) := fun d os => (ay.regrown d os).c2
          have y3 : ∀ d os, (grow (redrawn wr d) os).cell? ⟨g1, j * 4 + 3, none⟩ = some (.int .i64 y.ho) := fun d os => (ay.regrown d os).c3
          clear ax ay
          cases hkl : klt y x with
          | false =>
            rw [hkl] at hcmp
            have hz0 : 0 ≤ z := by simpa using hcmp
            have HI : Hid _ := hk ▸ I.left c1 gx (fun y' _ hy' => by rw [gy] at hy'; cases hy'; exact hkl)
            clear I gx gy hcmp hkl
            go_wp2_with fail
            refine wp_region_quiet_below (by kernel_rfl) (by kernel_rfl) ?_
            repeat (first | go_big_quiet_step ((go_at_call 30; exact Calls.regrown_of (totalCmp_eq HZ.out _))) | quiet_step ((go_at_call 30; exact Calls.regrown_of (totalCmp_eq HZ.out _))))
            refine wpQuiet_nil ?_
            intro _ hw'
            obtain ⟨⟨dq, osq⟩, hw''⟩ := hw'
            subst hw''
            have hbw := below_regrown wr dq osq
            generalize grow (redrawn wr dq) osq = wq at *
            clear x0 x1 x2 x3 y0 y1 y2 y3
            have SQ := HS.out.below hbw
            have xq := SQ.r1.at (j := i) (by omega)
            rw [← HX.out] at xq
            have e0 := xq.c0
            have e1 := xq.c1
            have e2 := xq.c2
            have e3 := xq.c3
            have yq := SQ.r2.at (j := k) (by omega)
            generalize eg dst k = yy at yq
            have q0 := yq.c0
            have q1 := yq.c1
            have q2 := yq.c2
            have q3 := yq.c3
            have f0 := SQ.r2.frozen (k * 4)
            have f1 := SQ.r2.frozen (k * 4 + 1)
            have f2 := SQ.r2.frozen (k * 4 + 2)
            have f3 := SQ.r2.frozen (k * 4 + 3)
            clear xq yq SQ
            go_wp2
            go_roundw
            case rel => exact ⟨i + 1, j, dst.set k x, by go_num, rfl, by rw [show i + 1 + j - mid = k + 1 from by omega]; go_num, (HS.out.below hbw).store hkn x, HI.out⟩
            case measure => simp [intOf]; omega

          | true =>
            rw [hkl] at hcmp
            have hz0 : z < 0 := by simpa using hcmp
            have HI : Hid _ := hk ▸ I.right (by omega) gy (fun y' _ hy' => by rw [gx] at hy'; cases hy'; exact hkl)
            clear I gx gy hcmp hkl
            go_wp2_with fail
            refine wp_region_quiet_below (by kernel_rfl) (by kernel_rfl) ?_
            repeat (first | go_big_quiet_step ((go_at_call 30; exact Calls.regrown_of (totalCmp_eq HZ.out _))) | quiet_step ((go_at_call 30; exact Calls.regrown_of (totalCmp_eq HZ.out _))))
            refine wpQuiet_nil ?_
            intro _ hw'
            obtain ⟨⟨dq, osq⟩, hw''⟩ := hw'
            subst hw''
            have hbw := below_regrown wr dq osq
            generalize grow (redrawn wr dq) osq = wq at *
            clear x0 x1 x2 x3 y0 y1 y2 y3
            have SQ := HS.out.below hbw
            have xq := SQ.r1.at (j := j) (by omega)
            rw [← HY.out] at xq
            have e0 := xq.c0
            have e1 := xq.c1
            have e2 := xq.c2
            have e3 := xq.c3
            have yq := SQ.r2.at (j := k) (by omega)
            generalize eg dst k = yy at yq
            have q0 := yq.c0
            have q1 := yq.c1
            have q2 := yq.c2
            have q3 := yq.c3
            have f0 := SQ.r2.frozen (k * 4)
            have f1 := SQ.r2.frozen (k * 4 + 1)
            have f2 := SQ.r2.frozen (k * 4 + 2)
            have f3 := SQ.r2.frozen (k * 4 + 3)
            clear xq yq SQ
            go_wp2
            go_roundw
            case rel => exact ⟨i, j + 1, dst.set k y, rfl, by go_num, by rw [show i + (j + 1) - mid = k + 1 from by omega]; go_num, (HS.out.below hbw).store hkn y, HI.out⟩
            case measure => simp [intOf]; omega

      · obtain ⟨y, hy⟩ : ∃ y, y = eg src j := ⟨_, rfl⟩
        have gy : src[j]? = some y := by rw [hy]; exact eg_get (by omega)
        have HY : Hid _ := hy
        clear hy
        have HI : Hid _ := hk ▸ I.right (by omega) gy (fun y' hy' _ => by omega)
        clear I gy
        go_wp2_with fail
        refine wp_region_quiet_below (by kernel_rfl) (by kernel_rfl) ?_
        repeat (first | go_big_quiet_step (fail) | quiet_step (fail))
        refine wpQuiet_nil ?_
        intro _ hw'
        obtain ⟨⟨dq, osq⟩, hw''⟩ := hw'
        subst hw''
        have hbw := below_regrown wr dq osq
        generalize grow (redrawn wr dq) osq = wq at *
        have SQ := HS.out.below hbw
        have xq := SQ.r1.at (j := j) (by omega)
        rw [← HY.out] at xq
        have e0 := xq.c0
        have e1 := xq.c1
        have e2 := xq.c2
        have e3 := xq.c3
        have yq := SQ.r2.at (j := k) (by omega)
        generalize eg dst k = yy at yq
        have q0 := yq.c0
        have q1 := yq.c1
        have q2 := yq.c2
        have q3 := yq.c3
        have f0 := SQ.r2.frozen (k * 4)
        have f1 := SQ.r2.frozen (k * 4 + 1)
        have f2 := SQ.r2.frozen (k * 4 + 2)
        have f3 := SQ.r2.frozen (k * 4 + 3)
        clear xq yq SQ
        go_wp2
        go_roundw
        case rel => exact ⟨i, j + 1, dst.set k y, rfl, by go_num, by rw [show i + (j + 1) - mid = k + 1 from by omega]; go_num, (HS.out.below hbw).store hkn y, HI.out⟩
        case measure => simp [intOf]; omega

    · obtain rfl : i = mid := by omega
      obtain rfl : j = hi := by omega
      go_wp2
      exact HQ.out _ _ _ _ _ _ _ _ _ _ _ _ _ _ _ _ _ _ _ _ _ _ _ _ _ _ _ _ _ _ _ _ _ _ _ _ _ _ _ _ _ _ _ _ _ _ _ wr dst S I
end Go.Proofs.Qxb6601457a
