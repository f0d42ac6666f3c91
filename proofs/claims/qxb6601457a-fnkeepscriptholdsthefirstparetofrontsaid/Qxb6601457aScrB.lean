import Derived.Test.Qxb6601457aScrA
import Derived.Test.Qxb6601457aLawE
import Derived.Test.Qxb6601457aSeq
import Derived.Test.Qxb6601457aMake
import Derived.BigQuiet
namespace Go.Proofs.Qxb6601457a
set_option linter.unusedSimpArgs false
set_option linter.unusedVariables false
open Go.RowKit Go.Sort
attribute [local go_sem] run_store_float

/-- A slice of n labels, by an index function. -/
structure LabsF (w : World) (a : Option Addr) (n b o : Nat) (c : Nat → Lab) : Prop where
  ad : 0 < n → a = some ⟨b, o, none⟩
  cell : ∀ j, j < n → LabAt w b (o + j * 6) (c j)
theorem LabsF.below {w w' : World} {a : Option Addr} {n b o : Nat} {c : Nat → Lab} (h : LabsF w a n b o c) (hb : Below w.heap.size w w') : LabsF w' a n b o c := ⟨h.ad, fun j hj => (h.cell j hj).below hb⟩
theorem LabsF.cell0 {w : World} {a : Option Addr} {n b : Nat} {c : Nat → Lab} (h : LabsF w a n b 0 c) : ∀ j, j < n → LabAt w b (j * 6) (c j) := fun j hj => by simpa using h.cell j hj

/-- A slice of n cells at the head of block b, by an index function; asked only where p holds. -/
structure Cells (w : World) (a : Option Addr) (n b : Nat) (p : Nat → Prop) (f : Nat → Value) : Prop where
  ad : 0 < n → a = some ⟨b, 0, none⟩
  cell : ∀ j, j < n → p j → w.cell? ⟨b, j, none⟩ = some (f j)
theorem Cells.below {w w' : World} {a : Option Addr} {n b : Nat} {p : Nat → Prop} {f : Nat → Value} (h : Cells w a n b p f) (hb : Below w.heap.size w w') : Cells w' a n b p f := ⟨h.ad, fun j hj hp => cell_later hb (h.cell j hj hp)⟩

theorem expU_le_num {c : Nat → Lab} (n t : Nat) : (expU c n t).length ≤ numN c t := by
  unfold expU numN takenL
  rw [List.length_map]
  have : ((List.range t).filter fun s => accB c s && survB c n s) = ((List.range t).filter (accB c)).filter (survB c n) := by
    rw [List.filter_filter]
    apply List.filter_congr
    intro x _
    cases accB c x <;> cases survB c n x <;> rfl
  rw [this]
  exact List.length_filter_le _ _


set_option maxRecDepth 100000 in
set_option maxHeartbeats 3200000 in
theorem f6_tail17 {u1 u2 u3 u5 u6 u8 u9 u13 u14 u15 u16 u17 u18 u19 u20 u21 u22 u23 u24 u25 u26 u27 u28 u29 u30 u31 u32 u33 u34 u35 u36 u37 u38 u39 u40 u41 u42 u43 u44 u45 u46 u47 u48 u49 u50 u51 u52 u53 u54 u55 u56 u57 u58 u59 u60 u61 u62 u63 u64 u65 u66 u67 u68 u69 u70 u71 u72 u73 u74 u75 u76 u77 u78 u79 u80 u81 u82 u83 u84 u85 u86 u87 u88 u89 u90 u91 u92 u93 u94 u95 u96 u97 u98 u99 u100 u101 u102 u103 u104 u105 u106 u107 u108 u109 u110 u111 u112 u113 u114 u115 u116 u117 u118 u119 u120 u121 u122 u123 u124 u125 u126 u127 u128 u129 u130 u131 u132 u133 u134 u135 u136 u137 u138 u139 u140 u141 u142 u143 u144 u145 u146 u147 u148 u149 u150 u151 u152 u153 u154 u155 u156 u157 u158 u159 u160 u161 u162 u163 u164 u165 u166 u167 u168 u169 u170 u171 u172 u173 u174 u175 u176 u177 u178 u179 u180 u181 u182 u183 u184 u185 u186 u187 u188 u189 u190 u191 u192 u193 u194 u195 u196 u197 u198 u199 u200 u201 u202 u203 u204 u205 u206 u207 u208 u209 u210 u211 u212 u213 u214 u215 u216 u217 u218 u219 u220 u221 u222 u223 u224 u225 u226 u227 u228 u229 u230 u231 u232 u233 u234 u235 u236 u237 u238 u239 u240 u241 u242 u243 u244 u245 u246 u247 : Value} {W0 w : World} {aS aK aA aN aL : Option Addr} {n cS m cK cA cN cL cnt gS gK gA gN : Nat} (c : Nat → Lab)
    (hW : Below W0.heap.size W0 w) (bn : n ≤ 1024) (iS : LabsF w aS n gS 0 c) (iA : Cells w aA n gA (fun _ => True) (fun j => .bool (accB c j))) (iN : Cells w aN n gN (fun j => accB c j = true) (fun j => .int .i64 (numN c j : Nat)))
    (hcnt : cnt = numN c n) (hm : m = (expU c n n).length) (iK : Ints w aK m gK 0 (natInts (expU c n n))) :
    Code.wp Try.prog (dropSeq 17 (Try.f6.body.getD .skip)) (bodyPost Try.prog Try.f6 fun e w' => e = .returned (.bool true) ∧ Below W0.heap.size W0 w')
      ⟨List.toArray ((.slice aL n cL) :: u1 :: u2 :: u3 :: (.slice aS n cS) :: u5 :: u6 :: (.slice aK m cK) :: u8 :: u9 :: (.slice aA n cA) :: (.slice aN n cN) :: (.int .i64 (cnt : Nat)) :: u13 :: u14 :: u15 :: u16 :: u17 :: u18 :: u19 :: u20 :: u21 :: u22 :: u23 :: u24 :: u25 :: u26 :: u27 :: u28 :: u29 :: u30 :: u31 :: u32 :: u33 :: u34 :: u35 :: u36 :: u37 :: u38 :: u39 :: u40 :: u41 :: u42 :: u43 :: u44 :: u45 :: u46 :: u47 :: u48 :: u49 :: u50 :: u51 :: u52 :: u53 :: u54 :: u55 :: u56 :: u57 :: u58 :: u59 :: u60 :: u61 :: u62 :: u63 :: u64 :: u65 :: u66 :: u67 :: u68 :: u69 :: u70 :: u71 :: u72 :: u73 :: u74 :: u75 :: u76 :: u77 :: u78 :: u79 :: u80 :: u81 :: u82 :: u83 :: u84 :: u85 :: u86 :: u87 :: u88 :: u89 :: u90 :: u91 :: u92 :: u93 :: u94 :: u95 :: u96 :: u97 :: u98 :: u99 :: u100 :: u101 :: u102 :: u103 :: u104 :: u105 :: u106 :: u107 :: u108 :: u109 :: u110 :: u111 :: u112 :: u113 :: u114 :: u115 :: u116 :: u117 :: u118 :: u119 :: u120 :: u121 :: u122 :: u123 :: u124 :: u125 :: u126 :: u127 :: u128 :: u129 :: u130 :: u131 :: u132 :: u133 :: u134 :: u135 :: u136 :: u137 :: u138 :: u139 :: u140 :: u141 :: u142 :: u143 :: u144 :: u145 :: u146 :: u147 :: u148 :: u149 :: u150 :: u151 :: u152 :: u153 :: u154 :: u155 :: u156 :: u157 :: u158 :: u159 :: u160 :: u161 :: u162 :: u163 :: u164 :: u165 :: u166 :: u167 :: u168 :: u169 :: u170 :: u171 :: u172 :: u173 :: u174 :: u175 :: u176 :: u177 :: u178 :: u179 :: u180 :: u181 :: u182 :: u183 :: u184 :: u185 :: u186 :: u187 :: u188 :: u189 :: u190 :: u191 :: u192 :: u193 :: u194 :: u195 :: u196 :: u197 :: u198 :: u199 :: u200 :: u201 :: u202 :: u203 :: u204 :: u205 :: u206 :: u207 :: u208 :: u209 :: u210 :: u211 :: u212 :: u213 :: u214 :: u215 :: u216 :: u217 :: u218 :: u219 :: u220 :: u221 :: u222 :: u223 :: u224 :: u225 :: u226 :: u227 :: u228 :: u229 :: u230 :: u231 :: u232 :: u233 :: u234 :: u235 :: u236 :: u237 :: u238 :: u239 :: u240 :: u241 :: u242 :: u243 :: u244 :: u245 :: u246 :: u247 :: []), []⟩ w := by
  obtain ⟨i3, hi3, hy0, hy1, hy2⟩ := info_parts Try.info3
  have hcn := numN_le c n
  rw [← hcnt] at hcn
  have HC : Hid _ := hcnt
  have HM : Hid _ := hm
  clear hcnt hm
  go_step
  refine wp_drop 17 (Try.f6.body.getD .skip) (by kernel_rfl) (fun K hK => ?_)
  conv => arg 2; whnf
  go_wp2_with (at_make; go_must (refine wpList_make_exact _ rfl _ _ 39 rfl 3 i3 (.int .i64 0) 1 Try.underlying39 hi3 hy0 hy1 .i64 .i64 _ _ 0 cnt rfl rfl rfl rfl (Nat.zero_le _) (by rw [hy2]; omega) (by unfold maxLen; omega) ?_))
  refine wp_drop 18 (Try.f6.body.getD .skip) (by kernel_rfl) (fun K hK => ?_)
  conv => arg 2; whnf
  go_wp2_with fail
  have hmade := Own.made w 3 1 0 cnt (Value.int .i64 0).cells (Nat.zero_le _) (by unfold maxLen; omega)
  go_loopw [17, 18] (fun l i wr => ∃ (t : Nat) (es : List Value), t ≤ n ∧ i = .int .i64 t ∧ l = .slice (some ⟨w.heap.size, 0, none⟩) (expU c n t).length cnt ∧ Own wr 3 1 (.slice (some ⟨w.heap.size, 0, none⟩) (expU c n t).length cnt) (expU c n t).length cnt es ∧ es.take (expU c n t).length = (expU c n t).map intv ∧ Below w.heap.size w wr) (fun _ i _ => n - (intOf i).toNat)
  case atStart => exact ⟨0, _, Nat.zero_le _, rfl, rfl, by simpa [Value.cells, expU] using hmade, by simp [expU], (Below.refl _ _).alloc (Nat.le_refl _) _⟩
  case round =>
    clear hmade
    obtain ⟨t, es, ht, rfl, rfl, hown, hes, hbel⟩ := hrel
    have HES : Hid _ := hes
    clear hes
    by_cases hlt : t < n
    · have hlt' : (t : Int) < n := by omega
      have hln := expU_le_num (c := c) n (t + 1)
      have hle1 := numN_mono c (show t + 1 ≤ n from hlt)
      rw [← HC.out] at hle1
      have hst := expU_step (c := c) n t
      obtain rfl := iA.ad (by omega)
      have xA := (iA.below hbel).cell t hlt trivial
      cases hacc : accB c t with
      | false =>
        rw [hacc] at xA
        rw [hacc, Bool.false_and, if_neg (by decide), List.append_nil] at hst
        have HST : Hid _ := hst
        clear hst iA iN iS iK HM HC hW
        go_wp2
        go_roundw
        case rel => exact ⟨t + 1, es, by omega, by go_num, by rw [HST.out], by rw [HST.out]; exact hown, by rw [HST.out]; exact HES.out, hbel⟩
        case measure => simp [intOf]; omega
      | true =>
        rw [hacc] at xA
        have xN := (iN.below hbel).cell t hlt hacc
        obtain rfl := iN.ad (by omega)
        obtain rfl := iS.ad (by omega)
        have hSr := iS.below hbel
        have hAr := iA.below hbel
        have HST : Hid _ := hst
        have HAC : Hid _ := hacc
        clear hst iA iN iS iK HM hacc hW
        obtain ⟨E, hE⟩ : ∃ E, E = expU c n t := ⟨_, rfl⟩
        rw [← hE] at hown HES HST ⊢
        have HE : Hid _ := hE
        clear hE
        obtain ⟨wo, hwo⟩ : ∃ wo : World, wo = wr := ⟨_, rfl⟩
        subst hwo
        go_wp2_with fail
        go_loopw [19, 20] (fun sv j wi => ∃ u : Nat, t < u ∧ u ≤ n ∧ j = .int .i64 u ∧ sv = .bool (survB c u t) ∧ Below wo.heap.size wo wi) (fun _ j _ => n - (intOf j).toNat)
        case atStart =>
          have h1 : survB c (t + 1) t = true := by rw [survB_iff]; intro u hu hs; omega
          exact ⟨t + 1, by omega, by omega, by go_num, by rw [h1], Below.refl _ _⟩
        case round =>
          obtain ⟨u, htu, hun, rfl, rfl, hbi⟩ := hrel
          by_cases hul : u < n
          · have hul' : (u : Int) < n := by omega
            have xu := (hAr.below hbi).cell u hul trivial
            have hss := survB_succ c u t
            cases hau : accB c u with
            | false =>
              rw [hau] at xu hss
              rw [Bool.and_false, Bool.false_and, Bool.not_false, Bool.and_true] at hss
              have HSS : Hid _ := hss
              generalize survB c u t = sv at *
              have xuq : ∀ d os, (grow (redrawn wr d) os).cell? ⟨gA, u, none⟩ = some (.bool false) := fun d os => cell_regrown xu d os
              clear xu hau hss hAr hSr xA xN
              go_wp2_with fail
              refine wp_region_quiet_below (by kernel_rfl) (by kernel_rfl) ?_
              repeat (first | go_big_quiet_step (fail) | quiet_step (fail))
              refine wpQuiet_nil ?_
              intro _ hw'
              obtain ⟨⟨dq, osq⟩, hw''⟩ := hw'
              subst hw''
              have hbw := below_regrown wr dq osq
              generalize grow (redrawn wr dq) osq = wq at *
              clear xuq
              go_wp2
              go_roundw
              case rel => exact ⟨u + 1, by omega, by omega, by go_num, by rw [HSS.out], hbi.trans (hbw.mono hbi.size)⟩
              case measure => simp [intOf]; omega
            | true =>
              rw [hau] at xu hss
              rw [Bool.and_true, decide_eq_true htu, Bool.true_and] at hss
              have xuq : ∀ d os, (grow (redrawn wr d) os).cell? ⟨gA, u, none⟩ = some (.bool true) := fun d os => cell_regrown xu d os
              have lu := (hSr.below hbi).cell0 u hul
              have lt := (hSr.below hbi).cell0 t hlt
              obtain ⟨xu', hxu⟩ : ∃ x, x = c u := ⟨_, rfl⟩
              obtain ⟨xt', hxt⟩ : ∃ x, x = c t := ⟨_, rfl⟩
              rw [← hxu, ← hxt] at hss
              rw [← hxu] at lu
              rw [← hxt] at lt
              have e0 : ∀ d os, (grow (redrawn wr d) os).cell? ⟨gS, u * 6, none⟩ = some (.float .f64 xu'.wt) := fun d os => (lu.regrown d os).c0
              have e1 : ∀ d os, (grow (redrawn wr d) os).cell? ⟨gS, u * 6 + 1, none⟩ = some (.float .f64 xu'.lo) := fun d os => (lu.regrown d os).c1
              have e2 : ∀ d os, (grow (redrawn wr d) os).cell? ⟨gS, u * 6 + 2, none⟩ = some (.float .f64 xu'.de) := fun d os => (lu.regrown d os).c2
              have e3 : ∀ d os, (grow (redrawn wr d) os).cell? ⟨gS, u * 6 + 3, none⟩ = some (.int .i64 xu'.ho) := fun d os => (lu.regrown d os).c3
              have e4 : ∀ d os, (grow (redrawn wr d) os).cell? ⟨gS, u * 6 + 4, none⟩ = some (.int .i64 xu'.st) := fun d os => (lu.regrown d os).c4
              have e5 : ∀ d os, (grow (redrawn wr d) os).cell? ⟨gS, u * 6 + 5, none⟩ = some (.int .i64 xu'.pr) := fun d os => (lu.regrown d os).c5
              have b0 : ∀ d os, (grow (redrawn wr d) os).cell? ⟨gS, t * 6, none⟩ = some (.float .f64 xt'.wt) := fun d os => (lt.regrown d os).c0
              have b1 : ∀ d os, (grow (redrawn wr d) os).cell? ⟨gS, t * 6 + 1, none⟩ = some (.float .f64 xt'.lo) := fun d os => (lt.regrown d os).c1
              have b2 : ∀ d os, (grow (redrawn wr d) os).cell? ⟨gS, t * 6 + 2, none⟩ = some (.float .f64 xt'.de) := fun d os => (lt.regrown d os).c2
              have b3 : ∀ d os, (grow (redrawn wr d) os).cell? ⟨gS, t * 6 + 3, none⟩ = some (.int .i64 xt'.ho) := fun d os => (lt.regrown d os).c3
              have b4 : ∀ d os, (grow (redrawn wr d) os).cell? ⟨gS, t * 6 + 4, none⟩ = some (.int .i64 xt'.st) := fun d os => (lt.regrown d os).c4
              have b5 : ∀ d os, (grow (redrawn wr d) os).cell? ⟨gS, t * 6 + 5, none⟩ = some (.int .i64 xt'.pr) := fun d os => (lt.regrown d os).c5
              clear xu hau hAr hSr xA xN lu lt hxu hxt
              by_cases hg : asGoodB xu' xt' = true
              · rw [hg, Bool.not_true, Bool.and_false] at hss
                have HSS : Hid _ := hss
                generalize survB c u t = sv at *
                clear hss
                go_wp2_with fail
                refine wp_region_quiet_below (by kernel_rfl) (by kernel_rfl) ?_
                repeat (first | go_big_quiet_step (((go_at_call 21; exact Calls.regrown_of (zzAsGood_eq _ _ _ hg _)))) | quiet_step (((go_at_call 21; exact Calls.regrown_of (zzAsGood_eq _ _ _ hg _)))))
                refine wpQuiet_nil ?_
                intro _ hw'
                obtain ⟨⟨dq, osq⟩, hw''⟩ := hw'
                subst hw''
                have hbw := below_regrown wr dq osq
                generalize grow (redrawn wr dq) osq = wq at *
                clear xuq e0 e1 e2 e3 e4 e5 b0 b1 b2 b3 b4 b5
                go_wp2
                go_roundw
                case rel => exact ⟨u + 1, by omega, by omega, by go_num, by rw [HSS.out], hbi.trans (hbw.mono hbi.size)⟩
                case measure => simp [intOf]; omega
              · have hg' : asGoodB xu' xt' = false := by simpa using hg
                rw [hg', Bool.not_false, Bool.and_true] at hss
                have HSS : Hid _ := hss
                generalize survB c u t = sv at *
                clear hss hg
                go_wp2_with fail
                refine wp_region_quiet_below (by kernel_rfl) (by kernel_rfl) ?_
                repeat (first | go_big_quiet_step (((go_at_call 21; exact Calls.regrown_of (zzAsGood_eq _ _ _ hg' _)))) | quiet_step (((go_at_call 21; exact Calls.regrown_of (zzAsGood_eq _ _ _ hg' _)))))
                refine wpQuiet_nil ?_
                intro _ hw'
                obtain ⟨⟨dq, osq⟩, hw''⟩ := hw'
                subst hw''
                have hbw := below_regrown wr dq osq
                generalize grow (redrawn wr dq) osq = wq at *
                clear xuq e0 e1 e2 e3 e4 e5 b0 b1 b2 b3 b4 b5
                go_wp2
                go_roundw
                case rel => exact ⟨u + 1, by omega, by omega, by go_num, by rw [HSS.out], hbi.trans (hbw.mono hbi.size)⟩
                case measure => simp [intOf]; omega
          · obtain rfl : n = u := by omega
            have xNi := cell_later hbi xN
            have howni := hown.below hbi
            have hbl2 : Below w.heap.size w wr := hbel.trans (hbi.mono hbel.size)
            clear xA xN hAr hSr
            cases hsv : survB c n t with
            | false =>
              have hst := HST.out
              rw [HAC.out, hsv, Bool.and_false, if_neg (by decide), List.append_nil] at hst
              have HST2 : Hid _ := hst
              clear hst HST hsv
              go_wp2
              go_roundw
              case rel => exact ⟨t + 1, es, by omega, by go_num, by rw [HST2.out], by rw [HST2.out]; exact howni, by rw [HST2.out]; exact HES.out, hbl2⟩
              case measure => simp [intOf]; omega
            | true =>
              have hst := HST.out
              rw [HAC.out, hsv, Bool.and_true, if_pos rfl] at hst
              rw [hst, List.length_append, List.length_singleton] at hln
              have HST2 : Hid _ := hst
              clear hst HST hsv
              have hroom : E.length < cnt := by omega
              clear hln hle1
              obtain ⟨q, hq⟩ : ∃ q, q = numN c t := ⟨_, rfl⟩
              rw [← hq] at xNi HST2
              have HQ : Hid _ := hq
              clear hq
              go_wp2_with (at_builtin; go_must (refine wpList_append_exact _ rfl (.tmp 221) (.tmp 226) 39 rfl 3 i3 (.int .i64 0) 1 8 Try.underlying39 hi3 hy0 hy1 hy2 rfl (.slice (some ⟨w.heap.size, 0, none⟩) E.length cnt) E.length cnt es rfl (howni.below ((Below.refl _ _).alloc (Nat.le_refl _) _)) ⟨wr.heap.size, 0, none⟩ 1 [.int .i64 (q : Nat)] rfl rfl (news_one _ _ _ _ rfl) (ints_oneCell .i64 [((q : Nat) : Int)]) (by unfold maxLen; omega) (by omega) ?_); intro gk capk' wy csk' hap)
              rcases hap.ways with ⟨_, hgk, hce, _⟩ | ⟨hx, _⟩
              case inr => omega
              have hgk' : w.heap.size = gk := by simpa [Value.ownBlock] using hgk
              clear hgk
              subst hgk'
              subst hce
              have hbf : Below w.heap.size w wy := (hbl2.alloc hbl2.size _).grown hap.grow (by have := hbl2.size; simp; omega) (fun q hq => by
                have : w.heap.size = q := by simpa [Value.ownBlock] using hq
                omega)
              go_wp2
              go_roundw
              case rel =>
                have el : (expU c n (t + 1)).length = E.length + 1 := by rw [HST2.out]; simp
                refine ⟨t + 1, csk', by omega, by go_num, by rw [el], by rw [el]; exact hap.own, ?_, hbf⟩
                have htk := hap.take
                rw [Nat.mul_one, Nat.mul_one, HES.out] at htk
                rw [el, htk, HST2.out]; simp [intv]
              case measure => simp [intOf]; omega
    · obtain rfl : n = t := by omega
      have hE : Ints wr (some ⟨w.heap.size, 0, none⟩) (expU c n n).length w.heap.size 0 (natInts (expU c n n)) := hown.ints (by rw [HES.out, natInts_map, List.take_of_length_le (by simp)]) (by simp [natInts_length])
      have hWr := hW.trans (hbel.mono hW.size)
      have hbm := expU_length (c := c) n n
      rw [← HM.out] at hE hbm ⊢
      go_wp2
      exact f6_tail19 (natInts (expU c n n)) hWr (by omega) (iK.below hbel) hE
end Go.Proofs.Qxb6601457a
