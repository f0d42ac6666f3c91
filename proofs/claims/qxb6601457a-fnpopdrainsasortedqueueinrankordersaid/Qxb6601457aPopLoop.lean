import Derived.Test.Qxb6601457aPopPop
namespace Go.Proofs.Qxb6601457a
set_option linter.unusedSimpArgs false
set_option linter.unusedVariables false
open Go.RowKit Go.Sort
attribute [local go_sem] run_store_float

theorem ahead_eq {x y : Ent} {z : Bool} (h : rl x y = z) (w : World) :
    Calls Try.prog 36 #[.agg #[.int .i64 x.at_, .float .f64 x.co, .float .f64 x.de, .int .i64 x.ho], .agg #[.int .i64 y.at_, .float .f64 y.co, .float .f64 y.de, .int .i64 y.ho]] w fun e w' => e = .returned (.int .i64 (bi z)) ∧ Below w.heap.size w w' := by
  subst h
  exact ahead_any _ _ _ _ _ _ _ _ w

theorem before_eq {x y : Ent} {z : Bool} (hx : nn x) (hy : nn y) (h : rl x y = z) (w : World) :
    Calls Try.prog 37 #[.agg #[.int .i64 x.at_, .float .f64 x.co, .float .f64 x.de, .int .i64 x.ho], .agg #[.int .i64 y.at_, .float .f64 y.co, .float .f64 y.de, .int .i64 y.ho]] w fun e w' => e = .returned (.bool z) ∧ Below w.heap.size w w' := by
  subst h
  exact before_any _ _ _ _ _ _ _ _ w hx hy

theorem rl_rlt {x y : Ent} (hx : nn x) (hy : nn y) : rl x y = rlt x y := rl_eq hx hy

theorem ahead_one {x y : Ent} (h : rl x y = true) (w : World) :
    Calls Try.prog 36 #[.agg #[.int .i64 x.at_, .float .f64 x.co, .float .f64 x.de, .int .i64 x.ho], .agg #[.int .i64 y.at_, .float .f64 y.co, .float .f64 y.de, .int .i64 y.ho]] w fun e w' => e = .returned (.int .i64 1) ∧ Below w.heap.size w w' := ahead_eq h w
theorem ahead_zero {x y : Ent} (h : rl x y = false) (w : World) :
    Calls Try.prog 36 #[.agg #[.int .i64 x.at_, .float .f64 x.co, .float .f64 x.de, .int .i64 x.ho], .agg #[.int .i64 y.at_, .float .f64 y.co, .float .f64 y.de, .int .i64 y.ho]] w fun e w' => e = .returned (.int .i64 0) ∧ Below w.heap.size w w' := ahead_eq h w

theorem eg_app {c : List Ent} (rest : List Ent) {j : Nat} (h : j < c.length) : eg (c ++ rest) j = eg c j := by simp [eg, List.getElem?_append, h]

set_option maxRecDepth 100000 in
set_option maxHeartbeats 6400000 in
theorem pop_loop {u1 u8 u9 u10 u11 u12 u13 u14 u15 u16 u17 u18 u19 u20 u21 u22 u23 u24 u25 u26 u27 u28 u29 u30 u31 u32 u33 u34 u35 u36 u37 u38 u39 u40 u41 u42 u43 u44 u45 u46 u47 u48 u49 u50 u51 u52 u53 u54 u55 u56 u57 u58 u59 u60 u61 u62 u63 u64 u65 u66 u67 u68 : Value} {w w0 : World} {n cap g bq kr : Nat} {h rest : List Ent} {best e : Ent} (bn : n ≤ 32768) (bc : n + 1 ≤ cap)
    (S : PopSt w w0 g bq kr (.slice (some ⟨g, 0, none⟩) (n + 1) cap) (h ++ rest) best e) (I : HInv h h n 0 e) (hnn : ∀ x ∈ h, nn x) :
    Code.wp Try.prog (dropSeq 6 (Try.f27.body.getD .skip)) (bodyPost Try.prog Try.f27 fun e w' => e = .returned (ev best) ∧ PopDone w w' g bq n cap h rest)
      ⟨List.toArray ((.pointer (some ⟨bq, 0, none⟩)) :: u1 :: (.pointer (some ⟨kr, 0, none⟩)) :: (.slice (some ⟨g, 0, none⟩) (n + 1) cap) :: (.pointer (some ⟨kr + 1, 0, none⟩)) :: (.int .i64 n) :: (.pointer (some ⟨kr + 2, 0, none⟩)) :: (.int .i64 0) :: u8 :: u9 :: u10 :: u11 :: u12 :: u13 :: u14 :: u15 :: u16 :: u17 :: u18 :: u19 :: u20 :: u21 :: u22 :: u23 :: u24 :: u25 :: u26 :: u27 :: u28 :: u29 :: u30 :: u31 :: u32 :: u33 :: u34 :: u35 :: u36 :: u37 :: u38 :: u39 :: u40 :: u41 :: u42 :: u43 :: u44 :: u45 :: u46 :: u47 :: u48 :: u49 :: u50 :: u51 :: u52 :: u53 :: u54 :: u55 :: u56 :: u57 :: u58 :: u59 :: u60 :: u61 :: u62 :: u63 :: u64 :: u65 :: u66 :: u67 :: u68 :: []), []⟩ w0 := by
  have nE : nn e := by
    rw [I.he]
    exact hnn _ (List.mem_of_getElem? (eg_get (by have := I.lenh; omega)))
  go_step
  refine wp_drop 6 _ (by kernel_rfl) (fun K hK => ?_)
  conv => arg 2; whnf
  go_wp2_with fail
  go_loopw [7, 8] (fun a b wr => ∃ (i : Nat) (c : List Ent), a = .int .i64 i ∧ b = .int .i64 ((2 * i + 1 : Nat) : Int) ∧ PopSt w wr g bq kr (.slice (some ⟨g, 0, none⟩) (n + 1) cap) (c ++ rest) best e ∧ HInv h c n i e ∧ ∀ x ∈ c, nn x) (fun a b _ => n - (intOf a).toNat)
  case atStart => exact ⟨0, h, rfl, rfl, S, I, hnn⟩
  case round =>
    clear S I hnn
    obtain ⟨i, c, rfl, rfl, S, I, hnn⟩ := hrel
    have hlen := I.len
    have HSwr : Hid _ := S
    have HI : Hid _ := I
    have HNN : Hid _ := hnn
    clear S I hnn
    obtain ⟨k, hk⟩ : ∃ k, 2 * i + 1 = k := ⟨_, rfl⟩
    rw [hk]
    by_cases hlt : k < n
    · by_cases hlt2 : k + 1 < n
      · obtain ⟨x2, hx2⟩ : ∃ x2, x2 = eg c (k + 1) := ⟨_, rfl⟩
        obtain ⟨x1, hx1⟩ : ∃ x1, x1 = eg c k := ⟨_, rfl⟩
        have n2 : nn x2 := by rw [hx2]; exact HNN.out _ (List.mem_of_getElem? (eg_get (by omega)))
        have n1 : nn x1 := by rw [hx1]; exact HNN.out _ (List.mem_of_getElem? (eg_get (by omega)))
        have a2 := HSwr.out.row.at (j := k + 1) (by rw [List.length_append]; omega)
        rw [eg_app _ (by omega), ← hx2] at a2
        have a1 := HSwr.out.row.at (j := k) (by rw [List.length_append]; omega)
        rw [eg_app _ (by omega), ← hx1] at a1
        have x0 : ∀ d os, (grow (redrawn wr d) os).cell? ⟨g, (k + 1) * 4, none⟩ = some (.int .i64 x2.at_) := fun d os => (a2.regrown d os).c0
        have x1_ : ∀ d os, (grow (redrawn wr d) os).cell? ⟨g, (k + 1) * 4 + 1, none⟩ = some (.float .f64 x2.co) := fun d os => (a2.regrown d os).c1
        have x2_ : ∀ d os, (grow (redrawn wr d) os).cell? ⟨g, (k + 1) * 4 + 2, none⟩ = some (.float .f64 x2.de) := fun d os => (a2.regrown d os).c2
        have x3 : ∀ d os, (grow (redrawn wr d) os).cell? ⟨g, (k + 1) * 4 + 3, none⟩ = some (.int .i64 x2.ho) := fun d os => (a2.regrown d os).c3
        have v0 : ∀ d os, (grow (redrawn wr d) os).cell? ⟨g, k * 4, none⟩ = some (.int .i64 x1.at_) := fun d os => (a1.regrown d os).c0
        have v1 : ∀ d os, (grow (redrawn wr d) os).cell? ⟨g, k * 4 + 1, none⟩ = some (.float .f64 x1.co) := fun d os => (a1.regrown d os).c1
        have v2 : ∀ d os, (grow (redrawn wr d) os).cell? ⟨g, k * 4 + 2, none⟩ = some (.float .f64 x1.de) := fun d os => (a1.regrown d os).c2
        have v3 : ∀ d os, (grow (redrawn wr d) os).cell? ⟨g, k * 4 + 3, none⟩ = some (.int .i64 x1.ho) := fun d os => (a1.regrown d os).c3
        clear a1 a2
        cases hz : rl x2 x1 with
        | true =>
          have hsib : ∀ j, 1 ≤ j → j < n → (j - 1) / 2 = i → rlt (eg c j) (eg c (k + 1)) = false := by
            intro j j1 j2 j3
            rw [rl_rlt n2 n1] at hz
            have : j = k ∨ j = k + 1 := by omega
            rcases this with rfl | rfl
            · rw [← hx1, ← hx2]; exact rlt_asymm hz
            · exact rlt_irrefl _
          have HSIB : Hid _ := hsib
          have HZ : Hid _ := hz
          clear hsib hz hx1 hx2 n1 n2
          go_wp2_with fail
          refine wp_region_quiet_below (by kernel_rfl) (by kernel_rfl) ?_
          repeat (first | go_big_quiet_step ((go_at_call 36; exact Calls.regrown_of (ahead_one HZ.out _))) | quiet_step ((go_at_call 36; exact Calls.regrown_of (ahead_one HZ.out _))))
          refine wpQuiet_nil ?_
          intro _ hw'
          obtain ⟨⟨dp, osq⟩, hw''⟩ := hw'
          subst hw''
          have hbwp := below_regrown wr dp osq
          generalize grow (redrawn wr dp) osq = wp at *
          have HSwp : Hid _ := HSwr.out.below hbwp
          clear x0 x1_ x2_ x3 v0 v1 v2 v3
          obtain ⟨y, hy⟩ : ∃ y, y = eg c (k + 1) := ⟨_, rfl⟩
          have HY : Hid _ := hy
          have ny : nn y := by rw [hy]; exact HNN.out _ (List.mem_of_getElem? (eg_get (by omega)))
          have ay := HSwp.out.row.at (j := k + 1) (by rw [List.length_append]; omega)
          rw [eg_app _ (by omega), ← hy] at ay
          have ae := HSwp.out.re.at (j := 0) (by simp)
          rw [show eg [e] 0 = e from rfl, Nat.zero_mul] at ae
          have y0 : ∀ d os, (grow (redrawn wp d) os).cell? ⟨g, (k + 1) * 4, none⟩ = some (.int .i64 y.at_) := fun d os => (ay.regrown d os).c0
          have y1 : ∀ d os, (grow (redrawn wp d) os).cell? ⟨g, (k + 1) * 4 + 1, none⟩ = some (.float .f64 y.co) := fun d os => (ay.regrown d os).c1
          have y2 : ∀ d os, (grow (redrawn wp d) os).cell? ⟨g, (k + 1) * 4 + 2, none⟩ = some (.float .f64 y.de) := fun d os => (ay.regrown d os).c2
          have y3 : ∀ d os, (grow (redrawn wp d) os).cell? ⟨g, (k + 1) * 4 + 3, none⟩ = some (.int .i64 y.ho) := fun d os => (ay.regrown d os).c3
          have z0 : ∀ d os, (grow (redrawn wp d) os).cell? ⟨kr + 2, 0, none⟩ = some (.int .i64 e.at_) := fun d os => (ae.regrown d os).c0
          have z1 : ∀ d os, (grow (redrawn wp d) os).cell? ⟨kr + 2, 1, none⟩ = some (.float .f64 e.co) := fun d os => by simpa using (ae.regrown d os).c1
          have z2 : ∀ d os, (grow (redrawn wp d) os).cell? ⟨kr + 2, 2, none⟩ = some (.float .f64 e.de) := fun d os => by simpa using (ae.regrown d os).c2
          have z3 : ∀ d os, (grow (redrawn wp d) os).cell? ⟨kr + 2, 3, none⟩ = some (.int .i64 e.ho) := fun d os => by simpa using (ae.regrown d os).c3
          clear hy ay ae
          cases hbe : rl y e with
          | true =>
            have HC : Hid _ := hbe
            clear hbe
            go_wp2_with fail
            refine wp_region_quiet_below (by kernel_rfl) (by kernel_rfl) ?_
            repeat (first | go_big_quiet_step ((go_at_call 37; exact Calls.regrown_of (before_eq ny nE HC.out _))) | quiet_step ((go_at_call 37; exact Calls.regrown_of (before_eq ny nE HC.out _))))
            refine wpQuiet_nil ?_
            intro _ hw'
            obtain ⟨⟨dq, osq⟩, hw''⟩ := hw'
            subst hw''
            have hbwq := below_regrown wp dq osq
            generalize grow (redrawn wp dq) osq = wq at *
            have SQ := HSwp.out.below hbwq
            have yq := SQ.row.at (j := k + 1) (by rw [List.length_append]; omega)
            rw [eg_app _ (by omega), ← HY.out] at yq
            have xq := SQ.row.at (j := i) (by rw [List.length_append]; omega)
            generalize eg (c ++ rest) i = xx at xq
            have p0 := yq.c0
            have p1 := yq.c1
            have p2 := yq.c2
            have p3 := yq.c3
            have r0 := xq.c0
            have r1 := xq.c1
            have r2 := xq.c2
            have r3 := xq.c3
            have f0 := SQ.row.frozen (i * 4)
            have f1 := SQ.row.frozen (i * 4 + 1)
            have f2 := SQ.row.frozen (i * 4 + 2)
            have f3 := SQ.row.frozen (i * 4 + 3)
            clear y0 y1 y2 y3 z0 z1 z2 z3 yq xq SQ
            go_wp2
            go_roundw
            case rel =>
              have hmv := HI.out.move (ch := k + 1) (by omega) (by omega) (by omega) (by rw [← HY.out, ← rl_rlt ny nE]; exact HC.out) HSIB.out
              rw [← HY.out] at hmv
              refine ⟨k + 1, c.set i y, by go_num, by go_num, ?_, hmv, fun x hx => ?_⟩
              · have := (HSwp.out.below hbwq).store (k := i) (by rw [List.length_append]; omega) y
                rw [List.set_append_left _ _ (by omega)] at this
                exact this
              · rcases List.mem_or_eq_of_mem_set hx with hx | hx
                · exact HNN.out x hx
                · rw [hx]; exact ny
            case measure => simp [intOf]; omega
          | false =>
            have HC : Hid _ := hbe
            clear hbe
            go_wp2_with fail
            refine wp_region_quiet_below (by kernel_rfl) (by kernel_rfl) ?_
            repeat (first | go_big_quiet_step ((go_at_call 37; exact Calls.regrown_of (before_eq ny nE HC.out _))) | quiet_step ((go_at_call 37; exact Calls.regrown_of (before_eq ny nE HC.out _))))
            refine wpQuiet_nil ?_
            intro _ hw'
            obtain ⟨⟨dq, osq⟩, hw''⟩ := hw'
            subst hw''
            have hbwq := below_regrown wp dq osq
            generalize grow (redrawn wp dq) osq = wq at *
            have HSQ : Hid _ := HSwp.out.below hbwq
            clear y0 y1 y2 y3 z0 z1 z2 z3
            go_wp2
            refine pop_tail bn bc HSQ.out HI.out (fun j j1 j2 j3 => ?_)
            refine rlt_trans (b := eg c (k + 1)) ?_ (HSIB.out j j1 j2 j3)
            rw [← HY.out, ← rl_rlt ny nE]; exact HC.out

        | false =>
          have hsib : ∀ j, 1 ≤ j → j < n → (j - 1) / 2 = i → rlt (eg c j) (eg c k) = false := by
            intro j j1 j2 j3
            rw [rl_rlt n2 n1] at hz
            have : j = k ∨ j = k + 1 := by omega
            rcases this with rfl | rfl
            · exact rlt_irrefl _
            · rw [← hx1, ← hx2]; exact hz
          have HSIB : Hid _ := hsib
          have HZ : Hid _ := hz
          clear hsib hz hx1 hx2 n1 n2
          go_wp2_with fail
          refine wp_region_quiet_below (by kernel_rfl) (by kernel_rfl) ?_
          repeat (first | go_big_quiet_step ((go_at_call 36; exact Calls.regrown_of (ahead_zero HZ.out _))) | quiet_step ((go_at_call 36; exact Calls.regrown_of (ahead_zero HZ.out _))))
          refine wpQuiet_nil ?_
          intro _ hw'
          obtain ⟨⟨dp, osq⟩, hw''⟩ := hw'
          subst hw''
          have hbwp := below_regrown wr dp osq
          generalize grow (redrawn wr dp) osq = wp at *
          have HSwp : Hid _ := HSwr.out.below hbwp
          clear x0 x1_ x2_ x3 v0 v1 v2 v3
          obtain ⟨y, hy⟩ : ∃ y, y = eg c (k) := ⟨_, rfl⟩
          have HY : Hid _ := hy
          have ny : nn y := by rw [hy]; exact HNN.out _ (List.mem_of_getElem? (eg_get (by omega)))
          have ay := HSwp.out.row.at (j := k) (by rw [List.length_append]; omega)
          rw [eg_app _ (by omega), ← hy] at ay
          have ae := HSwp.out.re.at (j := 0) (by simp)
          rw [show eg [e] 0 = e from rfl, Nat.zero_mul] at ae
          have y0 : ∀ d os, (grow (redrawn wp d) os).cell? ⟨g, k * 4, none⟩ = some (.int .i64 y.at_) := fun d os => (ay.regrown d os).c0
          have y1 : ∀ d os, (grow (redrawn wp d) os).cell? ⟨g, k * 4 + 1, none⟩ = some (.float .f64 y.co) := fun d os => (ay.regrown d os).c1
          have y2 : ∀ d os, (grow (redrawn wp d) os).cell? ⟨g, k * 4 + 2, none⟩ = some (.float .f64 y.de) := fun d os => (ay.regrown d os).c2
          have y3 : ∀ d os, (grow (redrawn wp d) os).cell? ⟨g, k * 4 + 3, none⟩ = some (.int .i64 y.ho) := fun d os => (ay.regrown d os).c3
          have z0 : ∀ d os, (grow (redrawn wp d) os).cell? ⟨kr + 2, 0, none⟩ = some (.int .i64 e.at_) := fun d os => (ae.regrown d os).c0
          have z1 : ∀ d os, (grow (redrawn wp d) os).cell? ⟨kr + 2, 1, none⟩ = some (.float .f64 e.co) := fun d os => by simpa using (ae.regrown d os).c1
          have z2 : ∀ d os, (grow (redrawn wp d) os).cell? ⟨kr + 2, 2, none⟩ = some (.float .f64 e.de) := fun d os => by simpa using (ae.regrown d os).c2
          have z3 : ∀ d os, (grow (redrawn wp d) os).cell? ⟨kr + 2, 3, none⟩ = some (.int .i64 e.ho) := fun d os => by simpa using (ae.regrown d os).c3
          clear hy ay ae
          cases hbe : rl y e with
          | true =>
            have HC : Hid _ := hbe
            clear hbe
            go_wp2_with fail
            refine wp_region_quiet_below (by kernel_rfl) (by kernel_rfl) ?_
            repeat (first | go_big_quiet_step ((go_at_call 37; exact Calls.regrown_of (before_eq ny nE HC.out _))) | quiet_step ((go_at_call 37; exact Calls.regrown_of (before_eq ny nE HC.out _))))
            refine wpQuiet_nil ?_
            intro _ hw'
            obtain ⟨⟨dq, osq⟩, hw''⟩ := hw'
            subst hw''
            have hbwq := below_regrown wp dq osq
            generalize grow (redrawn wp dq) osq = wq at *
            have SQ := HSwp.out.below hbwq
            have yq := SQ.row.at (j := k) (by rw [List.length_append]; omega)
            rw [eg_app _ (by omega), ← HY.out] at yq
            have xq := SQ.row.at (j := i) (by rw [List.length_append]; omega)
            generalize eg (c ++ rest) i = xx at xq
            have p0 := yq.c0
            have p1 := yq.c1
            have p2 := yq.c2
            have p3 := yq.c3
            have r0 := xq.c0
            have r1 := xq.c1
            have r2 := xq.c2
            have r3 := xq.c3
            have f0 := SQ.row.frozen (i * 4)
            have f1 := SQ.row.frozen (i * 4 + 1)
            have f2 := SQ.row.frozen (i * 4 + 2)
            have f3 := SQ.row.frozen (i * 4 + 3)
            clear y0 y1 y2 y3 z0 z1 z2 z3 yq xq SQ
            go_wp2
            go_roundw
            case rel =>
              have hmv := HI.out.move (ch := k) (by omega) (by omega) (by omega) (by rw [← HY.out, ← rl_rlt ny nE]; exact HC.out) HSIB.out
              rw [← HY.out] at hmv
              refine ⟨k, c.set i y, by go_num, by go_num, ?_, hmv, fun x hx => ?_⟩
              · have := (HSwp.out.below hbwq).store (k := i) (by rw [List.length_append]; omega) y
                rw [List.set_append_left _ _ (by omega)] at this
                exact this
              · rcases List.mem_or_eq_of_mem_set hx with hx | hx
                · exact HNN.out x hx
                · rw [hx]; exact ny
            case measure => simp [intOf]; omega
          | false =>
            have HC : Hid _ := hbe
            clear hbe
            go_wp2_with fail
            refine wp_region_quiet_below (by kernel_rfl) (by kernel_rfl) ?_
            repeat (first | go_big_quiet_step ((go_at_call 37; exact Calls.regrown_of (before_eq ny nE HC.out _))) | quiet_step ((go_at_call 37; exact Calls.regrown_of (before_eq ny nE HC.out _))))
            refine wpQuiet_nil ?_
            intro _ hw'
            obtain ⟨⟨dq, osq⟩, hw''⟩ := hw'
            subst hw''
            have hbwq := below_regrown wp dq osq
            generalize grow (redrawn wp dq) osq = wq at *
            have HSQ : Hid _ := HSwp.out.below hbwq
            clear y0 y1 y2 y3 z0 z1 z2 z3
            go_wp2
            refine pop_tail bn bc HSQ.out HI.out (fun j j1 j2 j3 => ?_)
            refine rlt_trans (b := eg c (k)) ?_ (HSIB.out j j1 j2 j3)
            rw [← HY.out, ← rl_rlt ny nE]; exact HC.out

      · have hsib : ∀ j, 1 ≤ j → j < n → (j - 1) / 2 = i → rlt (eg c j) (eg c k) = false := by
          intro j j1 j2 j3
          have : j = k := by omega
          subst this
          exact rlt_irrefl _
        have HSIB : Hid _ := hsib
        clear hsib
        obtain ⟨y, hy⟩ : ∃ y, y = eg c (k) := ⟨_, rfl⟩
        have HY : Hid _ := hy
        have ny : nn y := by rw [hy]; exact HNN.out _ (List.mem_of_getElem? (eg_get (by omega)))
        have ay := HSwr.out.row.at (j := k) (by rw [List.length_append]; omega)
        rw [eg_app _ (by omega), ← hy] at ay
        have ae := HSwr.out.re.at (j := 0) (by simp)
        rw [show eg [e] 0 = e from rfl, Nat.zero_mul] at ae
        have y0 : ∀ d os, (grow (redrawn wr d) os).cell? ⟨g, k * 4, none⟩ = some (.int .i64 y.at_) := fun d os => (ay.regrown d os).c0
        have y1 : ∀ d os, (grow (redrawn wr d) os).cell? ⟨g, k * 4 + 1, none⟩ = some (.float .f64 y.co) := fun d os => (ay.regrown d os).c1
        have y2 : ∀ d os, (grow (redrawn wr d) os).cell? ⟨g, k * 4 + 2, none⟩ = some (.float .f64 y.de) := fun d os => (ay.regrown d os).c2
        have y3 : ∀ d os, (grow (redrawn wr d) os).cell? ⟨g, k * 4 + 3, none⟩ = some (.int .i64 y.ho) := fun d os => (ay.regrown d os).c3
        have z0 : ∀ d os, (grow (redrawn wr d) os).cell? ⟨kr + 2, 0, none⟩ = some (.int .i64 e.at_) := fun d os => (ae.regrown d os).c0
        have z1 : ∀ d os, (grow (redrawn wr d) os).cell? ⟨kr + 2, 1, none⟩ = some (.float .f64 e.co) := fun d os => by simpa using (ae.regrown d os).c1
        have z2 : ∀ d os, (grow (redrawn wr d) os).cell? ⟨kr + 2, 2, none⟩ = some (.float .f64 e.de) := fun d os => by simpa using (ae.regrown d os).c2
        have z3 : ∀ d os, (grow (redrawn wr d) os).cell? ⟨kr + 2, 3, none⟩ = some (.int .i64 e.ho) := fun d os => by simpa using (ae.regrown d os).c3
        clear hy ay ae
        cases hbe : rl y e with
        | true =>
          have HC : Hid _ := hbe
          clear hbe
          go_wp2_with fail
          refine wp_region_quiet_below (by kernel_rfl) (by kernel_rfl) ?_
          repeat (first | go_big_quiet_step ((go_at_call 37; exact Calls.regrown_of (before_eq ny nE HC.out _))) | quiet_step ((go_at_call 37; exact Calls.regrown_of (before_eq ny nE HC.out _))))
          refine wpQuiet_nil ?_
          intro _ hw'
          obtain ⟨⟨dq, osq⟩, hw''⟩ := hw'
          subst hw''
          have hbwq := below_regrown wr dq osq
          generalize grow (redrawn wr dq) osq = wq at *
          have SQ := HSwr.out.below hbwq
          have yq := SQ.row.at (j := k) (by rw [List.length_append]; omega)
          rw [eg_app _ (by omega), ← HY.out] at yq
          have xq := SQ.row.at (j := i) (by rw [List.length_append]; omega)
          generalize eg (c ++ rest) i = xx at xq
          have p0 := yq.c0
          have p1 := yq.c1
          have p2 := yq.c2
          have p3 := yq.c3
          have r0 := xq.c0
          have r1 := xq.c1
          have r2 := xq.c2
          have r3 := xq.c3
          have f0 := SQ.row.frozen (i * 4)
          have f1 := SQ.row.frozen (i * 4 + 1)
          have f2 := SQ.row.frozen (i * 4 + 2)
          have f3 := SQ.row.frozen (i * 4 + 3)
          clear y0 y1 y2 y3 z0 z1 z2 z3 yq xq SQ
          go_wp2
          go_roundw
          case rel =>
            have hmv := HI.out.move (ch := k) (by omega) (by omega) (by omega) (by rw [← HY.out, ← rl_rlt ny nE]; exact HC.out) HSIB.out
            rw [← HY.out] at hmv
            refine ⟨k, c.set i y, by go_num, by go_num, ?_, hmv, fun x hx => ?_⟩
            · have := (HSwr.out.below hbwq).store (k := i) (by rw [List.length_append]; omega) y
              rw [List.set_append_left _ _ (by omega)] at this
              exact this
            · rcases List.mem_or_eq_of_mem_set hx with hx | hx
              · exact HNN.out x hx
              · rw [hx]; exact ny
          case measure => simp [intOf]; omega
        | false =>
          have HC : Hid _ := hbe
          clear hbe
          go_wp2_with fail
          refine wp_region_quiet_below (by kernel_rfl) (by kernel_rfl) ?_
          repeat (first | go_big_quiet_step ((go_at_call 37; exact Calls.regrown_of (before_eq ny nE HC.out _))) | quiet_step ((go_at_call 37; exact Calls.regrown_of (before_eq ny nE HC.out _))))
          refine wpQuiet_nil ?_
          intro _ hw'
          obtain ⟨⟨dq, osq⟩, hw''⟩ := hw'
          subst hw''
          have hbwq := below_regrown wr dq osq
          generalize grow (redrawn wr dq) osq = wq at *
          have HSQ : Hid _ := HSwr.out.below hbwq
          clear y0 y1 y2 y3 z0 z1 z2 z3
          go_wp2
          refine pop_tail bn bc HSQ.out HI.out (fun j j1 j2 j3 => ?_)
          refine rlt_trans (b := eg c (k)) ?_ (HSIB.out j j1 j2 j3)
          rw [← HY.out, ← rl_rlt ny nE]; exact HC.out

    · go_wp2
      exact pop_tail bn bc HSwr.out HI.out (fun j j1 j2 j3 => by omega)

end Go.Proofs.Qxb6601457a
