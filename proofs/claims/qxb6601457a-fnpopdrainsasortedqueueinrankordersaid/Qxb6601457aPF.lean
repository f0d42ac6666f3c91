import Derived.Test.Qxb6601457aPE
namespace Go.Proofs.Qxb6601457a
set_option linter.unusedSimpArgs false
set_option linter.unusedVariables false
open Go.RowKit Go.Sort
attribute [local go_sem] run_store_float

set_option maxRecDepth 100000 in
set_option maxHeartbeats 3200000 in
theorem f3_tail7 {u1 u2 u3 u5 u6 u7 u8 u9 u10 u11 u12 u13 u14 u15 u16 u17 u18 u19 u20 u21 u22 u23 u24 u25 u26 u27 u28 u29 u30 u31 u32 u33 u34 u35 u36 u37 u38 u39 u40 u41 u42 u43 u44 u45 u46 u47 u48 u49 u50 u51 u52 u53 u54 u55 u56 u57 u58 u59 u60 u61 u62 u63 u64 u65 u66 u67 u68 u69 u70 u71 u72 u73 u74 u75 u76 u77 u78 u79 u80 u81 u82 u83 u84 u85 u86 u87 u88 u89 u90 u91 u92 u93 u94 u95 u96 u97 u98 u99 u100 u101 u102 u103 u104 u105 u106 u107 u108 u109 u110 u111 u112 u113 u114 u115 u116 u117 u118 u119 u120 u121 u122 u123 u124 u125 u126 u127 u128 u129 u130 u131 u132 u133 u134 : Value} {W0 w : World} {n c b o : Nat} {a : Option Addr} {h : List Ent}  (hW : Below W0.heap.size W0 w) (bn : n ≤ 32768) (bc : n + 1 ≤ c) (E : Ents W0 a (n + 1) b o h) (nh : ∀ x ∈ h, nn x) (hp : Heap h (n + 1)) :
    Code.wp Try.prog (dropSeq 7 (Try.f3.body.getD .skip)) (bodyPost Try.prog Try.f3 fun e w' => e = .returned (.bool true) ∧ Below W0.heap.size W0 w')
      ⟨List.toArray ((.slice a (n + 1) c) :: u1 :: u2 :: u3 :: (.int .i64 n) :: u5 :: u6 :: u7 :: u8 :: u9 :: u10 :: u11 :: u12 :: u13 :: u14 :: u15 :: u16 :: u17 :: u18 :: u19 :: u20 :: u21 :: u22 :: u23 :: u24 :: u25 :: u26 :: u27 :: u28 :: u29 :: u30 :: u31 :: u32 :: u33 :: u34 :: u35 :: u36 :: u37 :: u38 :: u39 :: u40 :: u41 :: u42 :: u43 :: u44 :: u45 :: u46 :: u47 :: u48 :: u49 :: u50 :: u51 :: u52 :: u53 :: u54 :: u55 :: u56 :: u57 :: u58 :: u59 :: u60 :: u61 :: u62 :: u63 :: u64 :: u65 :: u66 :: u67 :: u68 :: u69 :: u70 :: u71 :: u72 :: u73 :: u74 :: u75 :: u76 :: u77 :: u78 :: u79 :: u80 :: u81 :: u82 :: u83 :: u84 :: u85 :: u86 :: u87 :: u88 :: u89 :: u90 :: u91 :: u92 :: u93 :: u94 :: u95 :: u96 :: u97 :: u98 :: u99 :: u100 :: u101 :: u102 :: u103 :: u104 :: u105 :: u106 :: u107 :: u108 :: u109 :: u110 :: u111 :: u112 :: u113 :: u114 :: u115 :: u116 :: u117 :: u118 :: u119 :: u120 :: u121 :: u122 :: u123 :: u124 :: u125 :: u126 :: u127 :: u128 :: u129 :: u130 :: u131 :: u132 :: u133 :: u134 :: []), []⟩ w := by
  obtain ⟨i31, hi31, hz0, hz1, hz2⟩ := info_parts Try.info31
  have r1 := RowE.made w 31 (n + 1)
  have B1 : Below w.heap.size w (w.alloc (.cells (madeCells #[.int .i64 0, .float .f64 0, .float .f64 0, .int .i64 0] ((n + 1) * 4)) 31)) := (Below.refl _ _).alloc (Nat.le_refl _) _
  have r2 := r1.below ((Below.refl _ _).alloc (Nat.le_refl _) (.cells #[.slice (some ⟨w.heap.size, 0, none⟩) 0 (n + 1)] 29))
  have q2 := heap_second w (.cells (madeCells #[.int .i64 0, .float .f64 0, .float .f64 0, .int .i64 0] ((n + 1) * 4)) 31) (.cells #[.slice (some ⟨w.heap.size, 0, none⟩) 0 (n + 1)] 29)
  have B2 : Below w.heap.size w ((w.alloc (.cells (madeCells #[.int .i64 0, .float .f64 0, .float .f64 0, .int .i64 0] ((n + 1) * 4)) 31)).alloc (.cells #[.slice (some ⟨w.heap.size, 0, none⟩) 0 (n + 1)] 29)) := B1.alloc (by simp) _
  have HR : Hid _ := r2
  have HQ : Hid _ := q2
  have HB : Hid _ := B2
  have HE : Hid _ := E
  have HN : Hid _ := nh
  have HP : Hid _ := hp
  have hs := hW.size
  clear E nh hp r1 r2 q2 B1 B2
  go_step
  refine wp_drop 7 _ (by kernel_rfl) (fun K hK => ?_)
  conv => arg 2; whnf
  go_wp2_with (at_make; go_must (refine wpList_make_exact _ rfl _ _ 29 rfl 31 i31 (.agg #[.int .i64 0, .float .f64 0, .float .f64 0, .int .i64 0]) 4 Try.underlying29 hi31 hz0 hz1 .i64 .i64 _ _ 0 (n + 1) rfl rfl rfl (by omega) (Nat.zero_le _) (by rw [hz2]; omega) (by unfold maxLen; omega) ?_))
  exact f3_tail8 (hW.trans (HB.out.mono hs)) bn bc HE.out HN.out HQ.out HR.out (by omega) (by omega) hs HP.out

set_option maxRecDepth 100000 in
set_option maxHeartbeats 3200000 in
theorem f3_tail6 {u1 u2 u3 u4 u5 u6 u7 u8 u9 u10 u11 u12 u13 u14 u15 u16 u17 u18 u19 u20 u21 u22 u23 u24 u25 u26 u27 u28 u29 u30 u31 u32 u33 u34 u35 u36 u37 u38 u39 u40 u41 u42 u43 u44 u45 u46 u47 u48 u49 u50 u51 u52 u53 u54 u55 u56 u57 u58 u59 u60 u61 u62 u63 u64 u65 u66 u67 u68 u69 u70 u71 u72 u73 u74 u75 u76 u77 u78 u79 u80 u81 u82 u83 u84 u85 u86 u87 u88 u89 u90 u91 u92 u93 u94 u95 u96 u97 u98 u99 u100 u101 u102 u103 u104 u105 u106 u107 u108 u109 u110 u111 u112 u113 u114 u115 u116 u117 u118 u119 u120 u121 u122 u123 u124 u125 u126 u127 u128 u129 u130 u131 u132 u133 u134 : Value} {W0 w : World} {n c b o : Nat} {a : Option Addr} {h : List Ent}  (hW : Below W0.heap.size W0 w) (bn : n ≤ 32768) (bc : n + 1 ≤ c) (E : Ents W0 a (n + 1) b o h) (nh : ∀ x ∈ h, nn x) (hp : Heap h (n + 1)) :
    Code.wp Try.prog (dropSeq 6 (Try.f3.body.getD .skip)) (bodyPost Try.prog Try.f3 fun e w' => e = .returned (.bool true) ∧ Below W0.heap.size W0 w')
      ⟨List.toArray ((.slice a (n + 1) c) :: u1 :: u2 :: u3 :: u4 :: u5 :: u6 :: u7 :: u8 :: u9 :: u10 :: u11 :: u12 :: u13 :: u14 :: u15 :: u16 :: u17 :: u18 :: u19 :: u20 :: u21 :: u22 :: u23 :: u24 :: u25 :: u26 :: u27 :: u28 :: u29 :: u30 :: u31 :: u32 :: u33 :: u34 :: u35 :: u36 :: u37 :: u38 :: u39 :: u40 :: u41 :: u42 :: u43 :: u44 :: u45 :: u46 :: u47 :: u48 :: u49 :: u50 :: u51 :: u52 :: u53 :: u54 :: u55 :: u56 :: u57 :: u58 :: u59 :: u60 :: u61 :: u62 :: u63 :: u64 :: u65 :: u66 :: u67 :: u68 :: u69 :: u70 :: u71 :: u72 :: u73 :: u74 :: u75 :: u76 :: u77 :: u78 :: u79 :: u80 :: u81 :: u82 :: u83 :: u84 :: u85 :: u86 :: u87 :: u88 :: u89 :: u90 :: u91 :: u92 :: u93 :: u94 :: u95 :: u96 :: u97 :: u98 :: u99 :: u100 :: u101 :: u102 :: u103 :: u104 :: u105 :: u106 :: u107 :: u108 :: u109 :: u110 :: u111 :: u112 :: u113 :: u114 :: u115 :: u116 :: u117 :: u118 :: u119 :: u120 :: u121 :: u122 :: u123 :: u124 :: u125 :: u126 :: u127 :: u128 :: u129 :: u130 :: u131 :: u132 :: u133 :: u134 :: []), []⟩ w := by
  have HE : Hid _ := E
  have HN : Hid _ := nh
  have HP : Hid _ := hp
  clear E nh hp
  go_step
  refine wp_drop 6 _ (by kernel_rfl) (fun K hK => ?_)
  conv => arg 2; whnf
  go_wp2_with fail
  exact f3_tail7 hW bn bc HE.out HN.out HP.out

set_option maxRecDepth 100000 in
set_option maxHeartbeats 3200000 in
theorem f3_tail5 {u1 u2 u3 u4 u5 u6 u7 u8 u9 u10 u11 u12 u13 u14 u15 u16 u17 u18 u19 u20 u21 u22 u23 u24 u25 u26 u27 u28 u29 u30 u31 u32 u33 u34 u35 u36 u37 u38 u39 u40 u41 u42 u43 u44 u45 u46 u47 u48 u49 u50 u51 u52 u53 u54 u55 u56 u57 u58 u59 u60 u61 u62 u63 u64 u65 u66 u67 u68 u69 u70 u71 u72 u73 u74 u75 u76 u77 u78 u79 u80 u81 u82 u83 u84 u85 u86 u87 u88 u89 u90 u91 u92 u93 u94 u95 u96 u97 u98 u99 u100 u101 u102 u103 u104 u105 u106 u107 u108 u109 u110 u111 u112 u113 u114 u115 u116 u117 u118 u119 u120 u121 u122 u123 u124 u125 u126 u127 u128 u129 u130 u131 u132 u133 u134 : Value} {W0 w : World} {n c b o : Nat} {a : Option Addr} {h : List Ent}  (hW : Below W0.heap.size W0 w) (bn : n ≤ 32768) (bc : n + 1 ≤ c) (E : Ents W0 a (n + 1) b o h) (nh : ∀ x ∈ h, nn x)  :
    Code.wp Try.prog (dropSeq 5 (Try.f3.body.getD .skip)) (bodyPost Try.prog Try.f3 fun e w' => e = .returned (.bool true) ∧ Below W0.heap.size W0 w')
      ⟨List.toArray ((.slice a (n + 1) c) :: u1 :: u2 :: u3 :: u4 :: u5 :: u6 :: u7 :: u8 :: u9 :: u10 :: u11 :: u12 :: u13 :: u14 :: u15 :: u16 :: u17 :: u18 :: u19 :: u20 :: u21 :: u22 :: u23 :: u24 :: u25 :: u26 :: u27 :: u28 :: u29 :: u30 :: u31 :: u32 :: u33 :: u34 :: u35 :: u36 :: u37 :: u38 :: u39 :: u40 :: u41 :: u42 :: u43 :: u44 :: u45 :: u46 :: u47 :: u48 :: u49 :: u50 :: u51 :: u52 :: u53 :: u54 :: u55 :: u56 :: u57 :: u58 :: u59 :: u60 :: u61 :: u62 :: u63 :: u64 :: u65 :: u66 :: u67 :: u68 :: u69 :: u70 :: u71 :: u72 :: u73 :: u74 :: u75 :: u76 :: u77 :: u78 :: u79 :: u80 :: u81 :: u82 :: u83 :: u84 :: u85 :: u86 :: u87 :: u88 :: u89 :: u90 :: u91 :: u92 :: u93 :: u94 :: u95 :: u96 :: u97 :: u98 :: u99 :: u100 :: u101 :: u102 :: u103 :: u104 :: u105 :: u106 :: u107 :: u108 :: u109 :: u110 :: u111 :: u112 :: u113 :: u114 :: u115 :: u116 :: u117 :: u118 :: u119 :: u120 :: u121 :: u122 :: u123 :: u124 :: u125 :: u126 :: u127 :: u128 :: u129 :: u130 :: u131 :: u132 :: u133 :: u134 :: []), []⟩ w := by
  have hl := E.len
  obtain rfl := E.ad (by omega)
  have HE : Hid _ := E
  have HN : Hid _ := nh
  clear E nh
  go_step
  refine wp_drop 5 _ (by kernel_rfl) (fun K hK => ?_)
  conv => arg 2; whnf
  go_wp2_with fail
  go_loopw [3] (fun i wr => ∃ k : Nat, 1 ≤ k ∧ k ≤ n + 1 ∧ i = .int .i64 k ∧ (∀ j, 1 ≤ j → j < k → rlt (eg h j) (eg h ((j - 1) / 2)) = false) ∧ Below w.heap.size w wr) (fun i _ => n + 1 - (intOf i).toNat)
  case atStart => exact ⟨1, Nat.le_refl _, by omega, rfl, fun j a b => by omega, Below.refl _ _⟩
  case round =>
    obtain ⟨k, hk1, hk, rfl, hall, hbel⟩ := hrel
    by_cases hlt : k < n + 1
    · have hlt' : (k : Int) < (n : Int) + 1 := by omega
      have EE := Ents.below HE.out (hW.trans (hbel.mono hW.size))
      obtain ⟨p, hp⟩ : ∃ p, (k - 1) / 2 = p := ⟨_, rfl⟩
      have ax := EE.cell k hlt
      have ay := EE.cell p (by omega)
      obtain ⟨x, hx⟩ : ∃ x, x = eg h k := ⟨_, rfl⟩
      obtain ⟨y, hy⟩ : ∃ y, y = eg h p := ⟨_, rfl⟩
      rw [← hx] at ax
      rw [← hy] at ay
      have nx : nn x := by rw [hx]; exact HN.out _ (List.mem_of_getElem? (eg_get (by omega)))
      have ny : nn y := by rw [hy]; exact HN.out _ (List.mem_of_getElem? (eg_get (by omega)))
      have hnext : rl x y = false → ∀ j, 1 ≤ j → j < k + 1 → rlt (eg h j) (eg h ((j - 1) / 2)) = false := by
        intro hz j j1 j2
        by_cases e : j = k
        · subst e; rw [hp, ← hx, ← hy, ← rl_rlt nx ny]; exact hz
        · exact hall j j1 (by omega)
      have HX : Hid _ := hnext
      have hi1 : (0 : Int) ≤ (k : Int) - 1 := by omega
      have hq1 : ((k : Int) - 1) / 2 = (p : Int) := by omega
      have hp2 : p < n + 1 := by omega
      have hp2' : (p : Int) < (n : Int) + 1 := by omega
      have x0 : ∀ d os, (grow (redrawn wr d) os).cell? ⟨b, o + k * 4, none⟩ = some (.int .i64 x.at_) := fun d os => (ax.regrown d os).c0
      have x1 : ∀ d os, (grow (redrawn wr d) os).cell? ⟨b, o + k * 4 + 1, none⟩ = some (.float .f64 x.co) := fun d os => (ax.regrown d os).c1
      have x2 : ∀ d os, (grow (redrawn wr d) os).cell? ⟨b, o + k * 4 + 2, none⟩ = some (.float .f64 x.de) := fun d os => (ax.regrown d os).c2
      have x3 : ∀ d os, (grow (redrawn wr d) os).cell? ⟨b, o + k * 4 + 3, none⟩ = some (.int .i64 x.ho) := fun d os => (ax.regrown d os).c3
      have y0 : ∀ d os, (grow (redrawn wr d) os).cell? ⟨b, o + p * 4, none⟩ = some (.int .i64 y.at_) := fun d os => (ay.regrown d os).c0
      have y1 : ∀ d os, (grow (redrawn wr d) os).cell? ⟨b, o + p * 4 + 1, none⟩ = some (.float .f64 y.co) := fun d os => (ay.regrown d os).c1
      have y2 : ∀ d os, (grow (redrawn wr d) os).cell? ⟨b, o + p * 4 + 2, none⟩ = some (.float .f64 y.de) := fun d os => (ay.regrown d os).c2
      have y3 : ∀ d os, (grow (redrawn wr d) os).cell? ⟨b, o + p * 4 + 3, none⟩ = some (.int .i64 y.ho) := fun d os => (ay.regrown d os).c3
      clear ax ay EE hx hy nx ny hnext hall
      cases hz : rl x y with
      | true =>
        have HZ : Hid _ := hz
        clear hz
        go_wp2_with fail
        refine wp_region_quiet_below (by kernel_rfl) (by kernel_rfl) ?_
        repeat (first | go_big_quiet_step ((go_at_call 9; exact Calls.regrown_of (rankLess_eq HZ.out _))) | quiet_step ((go_at_call 9; exact Calls.regrown_of (rankLess_eq HZ.out _))))
        refine wpQuiet_nil ?_
        intro _ hw'
        obtain ⟨⟨dq, osq⟩, hw''⟩ := hw'
        subst hw''
        have hbwq := below_regrown wr dq osq
        generalize grow (redrawn wr dq) osq = wq at *
        clear x0 x1 x2 x3 y0 y1 y2 y3
        go_wp2
        go_ret
        exact ⟨rfl, (hW.trans (hbel.mono hW.size)).trans (hbwq.mono (Nat.le_trans hW.size hbel.size))⟩
      | false =>
        have HZ : Hid _ := hz
        clear hz
        go_wp2_with fail
        refine wp_region_quiet_below (by kernel_rfl) (by kernel_rfl) ?_
        repeat (first | go_big_quiet_step ((go_at_call 9; exact Calls.regrown_of (rankLess_eq HZ.out _))) | quiet_step ((go_at_call 9; exact Calls.regrown_of (rankLess_eq HZ.out _))))
        refine wpQuiet_nil ?_
        intro _ hw'
        obtain ⟨⟨dq, osq⟩, hw''⟩ := hw'
        subst hw''
        have hbwq := below_regrown wr dq osq
        generalize grow (redrawn wr dq) osq = wq at *
        clear x0 x1 x2 x3 y0 y1 y2 y3
        go_wp2
        go_roundw
        case rel => exact ⟨k + 1, by omega, by omega, by go_num, HX.out HZ.out, hbel.trans (hbwq.mono hbel.size)⟩
        case measure => simp [intOf]; omega
    · obtain rfl : k = n + 1 := by omega
      have HA : Hid _ := hall
      clear hall
      go_wp2
      exact f3_tail6 (hW.trans (hbel.mono hW.size)) bn bc HE.out HN.out HA.out

set_option maxRecDepth 100000 in
set_option maxHeartbeats 3200000 in
theorem law3 (a : Option Addr) (N c b o : Nat) (h : List Ent) (w : World) (hN : N ≤ 9223372036854775807) (hc : N ≤ c) (E : Ents w a N b o h) :
    Calls Try.prog 3 #[.slice a N c] w fun e w' => e = .returned (.bool true) ∧ Below w.heap.size w w' := by
  by_cases h1 : N ≤ 1048576
  · have b1 : decide (N ≤ 1048576) = true := by simp [h1]
    by_cases h2 : N ≤ 32768
    · by_cases h0 : N = 0
      · subst h0
        go_enter Try.func3, Try.ntmps3
        go_wp2_with (go_at_call 7; refine (bytes7_any a _ c _ (by omega)).mono ?_; rintro e wx ⟨rfl, hwx⟩; subst hwx)
        go_ret
        exact ⟨rfl, Below.refl _ _⟩
      · have HE : Hid _ := E
        have HB1 : Hid _ := b1
        have H2 : Hid _ := h2
        have HN0 : Hid _ := hN
        have h2' : (N : Int) ≤ 32768 := by omega
        have h0' : (0 : Int) < N := by omega
        clear E b1 h1 hN h2 h0
        go_enter Try.func3, Try.ntmps3
        change Code.wp Try.prog (dropSeq 0 (Try.f3.body.getD .skip)) _ _ _
        refine wp_drop 0 _ (by kernel_rfl) (fun K hK => ?_)
        conv => arg 2; whnf
        go_wp2_with fail
        refine wp_drop 1 _ (by kernel_rfl) (fun K hK => ?_)
        conv => arg 2; whnf
        go_wp2_with (go_at_call 7; refine (bytes7_any a N c _ HN0.out).mono ?_; rintro e wx ⟨rfl, hwx⟩; subst hwx; rw [HB1.out])
        refine wp_drop 2 _ (by kernel_rfl) (fun K hK => ?_)
        conv => arg 2; whnf
        go_wp2_with fail
        refine wp_drop 3 _ (by kernel_rfl) (fun K hK => ?_)
        conv => arg 2; whnf
        go_wp2_with fail
        all_goals try (exfalso; omega)
        refine wp_drop 4 _ (by kernel_rfl) (fun K hK => ?_)
        conv => arg 2; whnf
        go_wp2_with (go_at_call 8; go_must (refine (hasNan_any a N c b o h _ H2.out HE.out).mono ?_); rintro e wy ⟨r, rfl, hr, hb⟩; have HR : Hid _ := hr; clear hr; cases r)
        · obtain ⟨n, rfl⟩ : ∃ n, N = n + 1 := ⟨N - 1, by omega⟩
          have hl := (HE.out).len
          have nh : ∀ x ∈ h, nn x := by
            intro x hx
            obtain ⟨j, hj⟩ := List.mem_iff_getElem?.1 hx
            have hjl := (List.getElem?_eq_some_iff.1 hj).1
            have := HR.out trivial j (by omega)
            rw [eg_get hjl] at hj
            cases hj
            exact this
          exact f3_tail5 hb (by omega) hc HE.out nh
        · go_ret
          exact ⟨rfl, hb⟩
    · go_enter Try.func3, Try.ntmps3
      go_wp2_with (go_at_call 7; refine (bytes7_any a _ c _ hN).mono ?_; rintro e wx ⟨rfl, hwx⟩; subst hwx; rw [b1])
      all_goals first | (exfalso; omega) | (go_ret; exact ⟨rfl, Below.refl _ _⟩)
  · have b1 : decide (N ≤ 1048576) = false := by simp [h1]
    go_enter Try.func3, Try.ntmps3
    go_wp2_with (go_at_call 7; refine (bytes7_any a _ c _ hN).mono ?_; rintro e wx ⟨rfl, hwx⟩; subst hwx; rw [b1])
    go_ret
    exact ⟨rfl, Below.refl _ _⟩
end Go.Proofs.Qxb6601457a
