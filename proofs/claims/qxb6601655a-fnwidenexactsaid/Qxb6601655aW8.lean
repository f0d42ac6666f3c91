import Derived.Test.Qxb6601655aW7
namespace Go.Proofs.Qxb6601655a
set_option linter.unusedSimpArgs false
set_option linter.unusedVariables false
open Go.RowKit
attribute [local go_sem] Try.eq45 Try.eq46 Try.eq53 Try.ne45


/-- What the merge's loop keeps. -/
structure WInv (W0 wr : World) (lz cz : List Int) (v : Value) (i k : Nat) (r : List Int) (cap : Nat) (cs : List Value) : Prop where
  own : Own wr 3 1 v r.length cap cs
  take : cs.take r.length = r.map (Value.int .i64)
  hg : ∀ g, v.ownBlock = some g → W0.heap.size ≤ g
  mrg : Mrg lz cz i k r
  bel : Below W0.heap.size W0 wr

theorem WInv.later {W0 wr wr' : World} {lz cz : List Int} {v : Value} {i k : Nat} {r : List Int} {cap : Nat} {cs : List Value} (h : WInv W0 wr lz cz v i k r cap cs) (hb : Below wr.heap.size wr wr') : WInv W0 wr' lz cz v i k r cap cs :=
  ⟨h.own.below hb, h.take, h.hg, h.mrg, h.bel.trans (hb.mono h.bel.size)⟩

theorem WInv.push {W0 wr w' : World} {lz cz : List Int} {v : Value} {i k i' k' : Nat} {r : List Int} {cap : Nat} {cs : List Value} (h : WInv W0 wr lz cz v i k r cap cs) {x : Int} {o : Obj} {g cap' : Nat} {cs' : List Value}
    (hap : Appended (wr.alloc o) 3 1 v r.length cap cs [.int .i64 x] g cap' w' cs') (hm : Mrg lz cz i' k' (r ++ [x])) :
    WInv W0 w' lz cz (.slice (some ⟨g, 0, none⟩) (r.length + 1) cap') i' k' (r ++ [x]) cap' cs' := by
  have hb1 : Below wr.heap.size wr (wr.alloc o) := (Below.refl _ _).alloc (Nat.le_refl _) _
  have hb2 : Below W0.heap.size W0 (wr.alloc o) := h.bel.trans (hb1.mono h.bel.size)
  have hl : (r ++ [x]).length = r.length + 1 := by simp
  refine ⟨by rw [hl]; exact hap.own, ?_, ?_, hm, ?_⟩
  · have := hap.take
    rw [Nat.mul_one, Nat.mul_one, h.take] at this
    rw [hl, this]
    simp
  · intro g' hg'
    simp only [Value.ownBlock] at hg'
    simp at hg'
    subst hg'
    rcases hap.ways with ⟨_, hv, _⟩ | ⟨_, hv, _⟩
    · exact h.hg g hv
    · rw [hv]; exact hb2.size
  · have hbut : But (fun q => W0.heap.size ≤ q) (wr.alloc o) w' := But.of_grown hap.grow (fun q hq => h.hg q hq)
    exact hb2.trans (hbut.below hb2.size (fun q hq => hq))

set_option maxRecDepth 100000 in
set_option maxHeartbeats 3200000 in
theorem f41_tail4 {u2 u3 u4 u8 u9 u10 u11 u12 u13 u14 u15 u16 u17 u18 u19 u20 u21 u22 u23 u24 u25 u26 u27 u28 u29 u30 u31 u32 u33 u34 u35 u36 u37 u38 u39 u40 u41 u42 u43 u44 u45 u46 u47 u48 u49 u50 u51 u52 u53 u54 u55 u56 u57 u58 u59 u60 u61 u62 u63 u64 u65 u66 u67 u68 u69 u70 u71 u72 u73 u74 u75 u76 u77 u78 u79 u80 u81 u82 u83 u84 u85 u86 u87 u88 u89 u90 u91 u92 u93 u94 u95 u96 u97 u98 u99 u100 u101 u102 u103 u104 u105 u106 u107 u108 u109 u110 u111 u112 u113 u114 u115 u116 u117 u118 u119 u120 u121 u122 u123 u124 u125 : Value} {W0 w : World} {bl nl cl nd cd nw cw bc bw ow : Nat} {ac ad aw p0 : Option Addr} {vb : Value} {lz cz : List Int} {oc : Nat}
    (L : W0.heap[bl]? = some (.cells #[.slice ac nl cl, .slice ad nd cd, vb, .pointer p0] 73 (0, 0))) (hW : Below W0.heap.size W0 w) (I : Ints W0 ac nl bc oc lz) (J : Ints W0 aw nw bw ow cz) (al : Asc lz) (acz : Asc cz) (bn : (nl : Int) ≤ 1048576) (bm : (nw : Int) ≤ 1048576) :
    Code.wp Try.prog (dropSeq 4 (Try.f41.body.getD .skip)) (bodyPost Try.prog Try.f41 fun e w' => ∃ pg, e = .returned (.pointer pg) ∧ WidenNew W0 w' bl (.slice ac nl cl) (.slice ad nd cd) (.slice aw nw cw) nd lz cz pg)
      ⟨List.toArray ((.pointer (some ⟨bl, 0, none⟩)) :: (.slice aw nw cw) :: u2 :: u3 :: u4 :: (.slice none 0 0) :: (.int .i64 0) :: (.int .i64 0) :: u8 :: u9 :: u10 :: u11 :: u12 :: u13 :: u14 :: u15 :: u16 :: u17 :: u18 :: u19 :: u20 :: u21 :: u22 :: u23 :: u24 :: u25 :: u26 :: u27 :: u28 :: u29 :: u30 :: u31 :: u32 :: u33 :: u34 :: u35 :: u36 :: u37 :: u38 :: u39 :: u40 :: u41 :: u42 :: u43 :: u44 :: u45 :: u46 :: u47 :: u48 :: u49 :: u50 :: u51 :: u52 :: u53 :: u54 :: u55 :: u56 :: u57 :: u58 :: u59 :: u60 :: u61 :: u62 :: u63 :: u64 :: u65 :: u66 :: u67 :: u68 :: u69 :: u70 :: u71 :: u72 :: u73 :: u74 :: u75 :: u76 :: u77 :: u78 :: u79 :: u80 :: u81 :: u82 :: u83 :: u84 :: u85 :: u86 :: u87 :: u88 :: u89 :: u90 :: u91 :: u92 :: u93 :: u94 :: u95 :: u96 :: u97 :: u98 :: u99 :: u100 :: u101 :: u102 :: u103 :: u104 :: u105 :: u106 :: u107 :: u108 :: u109 :: u110 :: u111 :: u112 :: u113 :: u114 :: u115 :: u116 :: u117 :: u118 :: u119 :: u120 :: u121 :: u122 :: u123 :: u124 :: u125 :: []), []⟩ w := by
  obtain ⟨i3, hi3, hy0, hy1, hy2⟩ := info_parts Try.info3
  have HL : Hid (W0.heap[bl]? = some (.cells #[.slice ac nl cl, .slice ad nd cd, vb, .pointer p0] 73 (0, 0))) := L
  have hln : lz.length = nl := I.len
  have hlw : cz.length = nw := J.len
  clear L
  go_step
  refine wp_drop 4 _ (by kernel_rfl) (fun K hK => ?_)
  conv => arg 2; whnf
  go_wp2_with fail
  go_loopw [5, 6, 7] (fun v si sk wr => ∃ (i k : Nat) (r : List Int) (cap : Nat) (cs : List Value), si = .int .i64 i ∧ sk = .int .i64 k ∧ WInv W0 wr lz cz v i k r cap cs) (fun _ si sk _ => (nl - (intOf si).toNat) + (nw - (intOf sk).toNat))
  case atStart => exact ⟨0, 0, [], 0, [], rfl, rfl, ⟨Own.nil _ _ _, rfl, fun g hg => (by cases hg), Mrg.init al acz, hW⟩⟩
  case round =>
    obtain ⟨i, k, r, cap, cs, rfl, rfl, hinv⟩ := hrel
    clear al acz hW
    have hil : i ≤ nl := by have := hinv.mrg.hi; omega
    have hkl : k ≤ nw := by have := hinv.mrg.hk; omega
    have c0 : ∀ d, (wr.drewN d).cell? ⟨bl, 0, none⟩ = some (.slice ac nl cl) := fun d => by
      have h1 : wr.heap[bl]? = _ := (hinv.bel.block bl (Array.getElem?_eq_some_iff.1 HL.out).1).trans HL.out
      show wr.cell? ⟨bl, 0, none⟩ = _
      rw [cell_of_row wr bl 0 _ _ _ h1]; rfl

    by_cases hi : i < nl
    · obtain rfl := I.ad (by omega)
      obtain ⟨x, hxe⟩ : ∃ x, x = ig lz i := ⟨_, rfl⟩
      have cx : ∀ d, (wr.drewN d).cell? ⟨bc, oc + i, none⟩ = some (.int .i64 x) := fun d => by rw [hxe]; exact (I.below hinv.bel).cell i hi

      by_cases hk : k < nw
      · obtain rfl := J.ad (by omega)
        obtain ⟨y, hye⟩ : ∃ y, y = ig cz k := ⟨_, rfl⟩
        have cy : ∀ d, (wr.drewN d).cell? ⟨bw, ow + k, none⟩ = some (.int .i64 y) := fun d => by rw [hye]; exact (J.below hinv.bel).cell k hk

        have hki : ((k : Int) == (nw : Int)) = false := by rw [beq_eq_false_iff_ne]; omega
        by_cases h1 : x < y
        · skip
          have HI0 : Hid (WInv W0 wr lz cz u5 i k r cap cs) := hinv
          have HM : Hid (Mrg lz cz (i + 1) (k) (r ++ [x])) := by rw [hxe]; exact hinv.mrg.left (by omega) (fun _ => by rw [← hxe, ← hye]; exact h1)
          have hrl : r.length ≤ 2097152 := by have := hinv.mrg.len; have := hinv.mrg.hi; have := hinv.mrg.hk; omega
          clear hinv hxe hye I J
          have c00 : wr.cell? ⟨bl, 0, none⟩ = some (.slice _ _ cl) := c0 0
          go_wp2_with fail
          go_quiet (fail)
          have HINV : Hid (WInv W0 (wr.drewN nq) lz cz u5 i k r cap cs) := WInv.later HI0.out (below_drewN (Below.refl _ wr) nq)
          have c01 := c0 nq
          have cx1 := cx nq
          have cy1 := cy nq
          clear c0 c00 HI0 cx cy
          generalize wr.drewN nq = wq at *

          go_wp2_with (at_builtin; go_must (refine wpList_append_exact _ rfl (.tmp 65) (.tmp 73) 45 rfl 3 i3 (.int .i64 0) 1 8 Try.underlying45 hi3 hy0 hy1 hy2 rfl u5 r.length cap cs rfl (Own.below (WInv.own HINV.out) ((Below.refl _ _).alloc (Nat.le_refl _) _)) ⟨wq.heap.size, 0, none⟩ 1 [.int .i64 x] rfl rfl (news_one _ _ _ _ rfl) (by intro u hu; simp at hu; subst hu; rfl) (by unfold maxLen; omega) (by omega) ?_); intro g cap' wy cs' hap; have HAP : Hid _ := hap; clear hap)
          go_roundw
          case rel => exact ⟨i + 1, k, r ++ [x], _, _, by go_num, by go_num, WInv.push HINV.out HAP.out HM.out⟩
          case measure => simp [intOf]; omega

        · by_cases h2 : x = y
          · skip
            have HI0 : Hid (WInv W0 wr lz cz u5 i k r cap cs) := hinv
            have HM : Hid (Mrg lz cz (i + 1) (k + 1) (r ++ [y])) := by rw [hye]; exact hinv.mrg.both (by omega) (by omega) (by rw [← hxe, ← hye]; exact h2)
            have hrl : r.length ≤ 2097152 := by have := hinv.mrg.len; have := hinv.mrg.hi; have := hinv.mrg.hk; omega
            clear hinv hxe hye I J
            have c00 : wr.cell? ⟨bl, 0, none⟩ = some (.slice _ _ cl) := c0 0
            go_wp2_with fail
            go_quiet (fail)
            have HI1 : Hid (WInv W0 (wr.drewN nq) lz cz u5 i k r cap cs) := WInv.later HI0.out (below_drewN (Below.refl _ wr) nq)
            have c01 := c0 nq
            have cx1 := cx nq
            have cy1 := cy nq
            clear c0 c00 HI0 cx cy
            generalize wr.drewN nq = wz at *
            have c00 := c01
            have c0 : ∀ d, (wz.drewN d).cell? ⟨bl, 0, none⟩ = some (.slice _ _ cl) := fun d => c00
            have cx : ∀ d, (wz.drewN d).cell? ⟨bc, oc + i, none⟩ = some (.int .i64 x) := fun d => cx1
            have cy : ∀ d, (wz.drewN d).cell? ⟨bw, ow + k, none⟩ = some (.int .i64 y) := fun d => cy1
            clear c01 cx1 cy1
            go_wp2_with fail
            go_quiet (fail)
            have HINV : Hid (WInv W0 (wz.drewN nq) lz cz u5 i k r cap cs) := WInv.later HI1.out (below_drewN (Below.refl _ wz) nq)
            have c01 := c0 nq
            have cx1 := cx nq
            have cy1 := cy nq
            clear c0 c00 HI1 cx cy
            generalize wz.drewN nq = wq at *

            go_wp2_with (at_builtin; go_must (refine wpList_append_exact _ rfl (.tmp 100) (.tmp 105) 45 rfl 3 i3 (.int .i64 0) 1 8 Try.underlying45 hi3 hy0 hy1 hy2 rfl u5 r.length cap cs rfl (Own.below (WInv.own HINV.out) ((Below.refl _ _).alloc (Nat.le_refl _) _)) ⟨wq.heap.size, 0, none⟩ 1 [.int .i64 y] rfl rfl (news_one _ _ _ _ rfl) (by intro u hu; simp at hu; subst hu; rfl) (by unfold maxLen; omega) (by omega) ?_); intro g cap' wy cs' hap; have HAP : Hid _ := hap; clear hap)
            go_roundw
            case rel => exact ⟨i + 1, k + 1, r ++ [y], _, _, by go_num, by go_num, WInv.push HINV.out HAP.out HM.out⟩
            case measure => simp [intOf]; omega

          · have h3 : decide (x < y) = false := by simp; omega
            have h4 : (x == y) = false := by rw [beq_eq_false_iff_ne]; exact h2
            have HI0 : Hid (WInv W0 wr lz cz u5 i k r cap cs) := hinv
            have HM : Hid (Mrg lz cz (i) (k + 1) (r ++ [y])) := by rw [hye]; exact hinv.mrg.right (by omega) (fun _ => by rw [← hxe, ← hye]; omega)
            have hrl : r.length ≤ 2097152 := by have := hinv.mrg.len; have := hinv.mrg.hi; have := hinv.mrg.hk; omega
            clear hinv hxe hye I J
            have c00 : wr.cell? ⟨bl, 0, none⟩ = some (.slice _ _ cl) := c0 0
            go_wp2_with fail
            go_quiet (fail)
            have HI1 : Hid (WInv W0 (wr.drewN nq) lz cz u5 i k r cap cs) := WInv.later HI0.out (below_drewN (Below.refl _ wr) nq)
            have c01 := c0 nq
            have cx1 := cx nq
            have cy1 := cy nq
            clear c0 c00 HI0 cx cy
            generalize wr.drewN nq = wz at *
            have c00 := c01
            have c0 : ∀ d, (wz.drewN d).cell? ⟨bl, 0, none⟩ = some (.slice _ _ cl) := fun d => c00
            have cx : ∀ d, (wz.drewN d).cell? ⟨bc, oc + i, none⟩ = some (.int .i64 x) := fun d => cx1
            have cy : ∀ d, (wz.drewN d).cell? ⟨bw, ow + k, none⟩ = some (.int .i64 y) := fun d => cy1
            clear c01 cx1 cy1
            go_wp2_with fail
            go_quiet (fail)
            have HINV : Hid (WInv W0 (wz.drewN nq) lz cz u5 i k r cap cs) := WInv.later HI1.out (below_drewN (Below.refl _ wz) nq)
            have c01 := c0 nq
            have cx1 := cx nq
            have cy1 := cy nq
            clear c0 c00 HI1 cx cy
            generalize wz.drewN nq = wq at *

            go_wp2_with (at_builtin; go_must (refine wpList_append_exact _ rfl (.tmp 100) (.tmp 105) 45 rfl 3 i3 (.int .i64 0) 1 8 Try.underlying45 hi3 hy0 hy1 hy2 rfl u5 r.length cap cs rfl (Own.below (WInv.own HINV.out) ((Below.refl _ _).alloc (Nat.le_refl _) _)) ⟨wq.heap.size, 0, none⟩ 1 [.int .i64 y] rfl rfl (news_one _ _ _ _ rfl) (by intro u hu; simp at hu; subst hu; rfl) (by unfold maxLen; omega) (by omega) ?_); intro g cap' wy cs' hap; have HAP : Hid _ := hap; clear hap)
            go_roundw
            case rel => exact ⟨i, k + 1, r ++ [y], _, _, by go_num, by go_num, WInv.push HINV.out HAP.out HM.out⟩
            case measure => simp [intOf]; omega

      · obtain rfl : k = nw := by omega
        have HI0 : Hid (WInv W0 wr lz cz u5 i k r cap cs) := hinv
        have HM : Hid (Mrg lz cz (i + 1) (k) (r ++ [x])) := by rw [hxe]; exact hinv.mrg.left (by omega) (fun h => by omega)
        have hrl : r.length ≤ 2097152 := by have := hinv.mrg.len; have := hinv.mrg.hi; have := hinv.mrg.hk; omega
        clear hinv hxe I J
        have c00 : wr.cell? ⟨bl, 0, none⟩ = some (.slice _ _ cl) := c0 0
        go_wp2_with fail
        go_quiet (fail)
        have HINV : Hid (WInv W0 (wr.drewN nq) lz cz u5 i k r cap cs) := WInv.later HI0.out (below_drewN (Below.refl _ wr) nq)
        have c01 := c0 nq
        have cx1 := cx nq
        clear c0 c00 HI0 cx
        generalize wr.drewN nq = wq at *

        go_wp2_with (at_builtin; go_must (refine wpList_append_exact _ rfl (.tmp 65) (.tmp 73) 45 rfl 3 i3 (.int .i64 0) 1 8 Try.underlying45 hi3 hy0 hy1 hy2 rfl u5 r.length cap cs rfl (Own.below (WInv.own HINV.out) ((Below.refl _ _).alloc (Nat.le_refl _) _)) ⟨wq.heap.size, 0, none⟩ 1 [.int .i64 x] rfl rfl (news_one _ _ _ _ rfl) (by intro u hu; simp at hu; subst hu; rfl) (by unfold maxLen; omega) (by omega) ?_); intro g cap' wy cs' hap; have HAP : Hid _ := hap; clear hap)
        go_roundw
        case rel => exact ⟨i + 1, k, r ++ [x], _, _, by go_num, by go_num, WInv.push HINV.out HAP.out HM.out⟩
        case measure => simp [intOf]; omega

    · obtain rfl : i = nl := by omega
      by_cases hk : k < nw
      · obtain rfl := J.ad (by omega)
        obtain ⟨y, hye⟩ : ∃ y, y = ig cz k := ⟨_, rfl⟩
        have cy : ∀ d, (wr.drewN d).cell? ⟨bw, ow + k, none⟩ = some (.int .i64 y) := fun d => by rw [hye]; exact (J.below hinv.bel).cell k hk

        have hki : ((k : Int) == (nw : Int)) = false := by rw [beq_eq_false_iff_ne]; omega
        have hii : decide ((i : Int) < (i : Int)) = false := by simp
        have HI0 : Hid (WInv W0 wr lz cz u5 i k r cap cs) := hinv
        have HM : Hid (Mrg lz cz (i) (k + 1) (r ++ [y])) := by rw [hye]; exact hinv.mrg.right (by omega) (fun h => by omega)
        have hrl : r.length ≤ 2097152 := by have := hinv.mrg.len; have := hinv.mrg.hi; have := hinv.mrg.hk; omega
        clear hinv hye I J
        have c00 : wr.cell? ⟨bl, 0, none⟩ = some (.slice _ _ cl) := c0 0
        go_wp2_with fail
        go_quiet (fail)
        have HI1 : Hid (WInv W0 (wr.drewN nq) lz cz u5 i k r cap cs) := WInv.later HI0.out (below_drewN (Below.refl _ wr) nq)
        have c01 := c0 nq
        have cy1 := cy nq
        clear c0 c00 HI0 cy
        generalize wr.drewN nq = wz at *
        have c00 := c01
        have c0 : ∀ d, (wz.drewN d).cell? ⟨bl, 0, none⟩ = some (.slice _ _ cl) := fun d => c00
        have cy : ∀ d, (wz.drewN d).cell? ⟨bw, ow + k, none⟩ = some (.int .i64 y) := fun d => cy1
        clear c01 cy1
        go_wp2_with fail
        go_quiet (fail)
        have HINV : Hid (WInv W0 (wz.drewN nq) lz cz u5 i k r cap cs) := WInv.later HI1.out (below_drewN (Below.refl _ wz) nq)
        have c01 := c0 nq
        have cy1 := cy nq
        clear c0 c00 HI1 cy
        generalize wz.drewN nq = wq at *

        go_wp2_with (at_builtin; go_must (refine wpList_append_exact _ rfl (.tmp 100) (.tmp 105) 45 rfl 3 i3 (.int .i64 0) 1 8 Try.underlying45 hi3 hy0 hy1 hy2 rfl u5 r.length cap cs rfl (Own.below (WInv.own HINV.out) ((Below.refl _ _).alloc (Nat.le_refl _) _)) ⟨wq.heap.size, 0, none⟩ 1 [.int .i64 y] rfl rfl (news_one _ _ _ _ rfl) (by intro u hu; simp at hu; subst hu; rfl) (by unfold maxLen; omega) (by omega) ?_); intro g cap' wy cs' hap; have HAP : Hid _ := hap; clear hap)
        go_roundw
        case rel => exact ⟨i, k + 1, r ++ [y], _, _, by go_num, by go_num, WInv.push HINV.out HAP.out HM.out⟩
        case measure => simp [intOf]; omega

      · obtain rfl : k = nw := by omega
        have HI0 : Hid (WInv W0 wr lz cz u5 i k r cap cs) := hinv
        have hrl : (r.length : Int) ≤ 2097152 := by have := hinv.mrg.len; omega
        clear hinv
        have c00 : wr.cell? ⟨bl, 0, none⟩ = some (.slice _ _ cl) := c0 0
        go_wp2_with fail
        have hi := HI0.out
        have hm := hi.mrg
        rw [← hln, ← hlw] at hm
        obtain ⟨d1, d2, d3⟩ := hm.done
        exact f41_tail5 (bc := 0) (bw := 0) (ow := 0) HL.out hi.bel hi.own hi.take hi.hg d1 d2 d3 hrl

end Go.Proofs.Qxb6601655a
