import Derived.Test.Qxb6601457aScrB
import Derived.Test.Qxb6601457aSeq
import Derived.BigQuiet
namespace Go.Proofs.Qxb6601457a
set_option linter.unusedSimpArgs false
set_option linter.unusedVariables false
open Go.RowKit Go.Sort
attribute [local go_sem] run_store_float

set_option maxRecDepth 100000 in
set_option maxHeartbeats 3200000 in
theorem f6_tail14 {u1 u2 u3 u5 u8 u9 u13 u14 u15 u16 u17 u18 u19 u20 u21 u22 u23 u24 u25 u26 u27 u28 u29 u30 u31 u32 u33 u34 u35 u36 u37 u38 u39 u40 u41 u42 u43 u44 u45 u46 u47 u48 u49 u50 u51 u52 u53 u54 u55 u56 u57 u58 u59 u60 u61 u62 u63 u64 u65 u66 u67 u68 u69 u70 u71 u72 u73 u74 u75 u76 u77 u78 u79 u80 u81 u82 u83 u84 u85 u86 u87 u88 u89 u90 u91 u92 u93 u94 u95 u96 u97 u98 u99 u100 u101 u102 u103 u104 u105 u106 u107 u108 u109 u110 u111 u112 u113 u114 u115 u116 u117 u118 u119 u120 u121 u122 u123 u124 u125 u126 u127 u128 u129 u130 u131 u132 u133 u134 u135 u136 u137 u138 u139 u140 u141 u142 u143 u144 u145 u146 u147 u148 u149 u150 u151 u152 u153 u154 u155 u156 u157 u158 u159 u160 u161 u162 u163 u164 u165 u166 u167 u168 u169 u170 u171 u172 u173 u174 u175 u176 u177 u178 u179 u180 u181 u182 u183 u184 u185 u186 u187 u188 u189 u190 u191 u192 u193 u194 u195 u196 u197 u198 u199 u200 u201 u202 u203 u204 u205 u206 u207 u208 u209 u210 u211 u212 u213 u214 u215 u216 u217 u218 u219 u220 u221 u222 u223 u224 u225 u226 u227 u228 u229 u230 u231 u232 u233 u234 u235 u236 u237 u238 u239 u240 u241 u242 u243 u244 u245 u246 u247 : Value} {W0 w : World} {aS aK aA aN aL aG : Option Addr} {n cS m cK cA cN cL cnt gS gK gA gN bL oL pw gG cG : Nat} (c : Nat → Lab)
    (hW : Below W0.heap.size W0 w) (bn : n ≤ 1024) (iS : LabsF w aS n gS 0 c) (iA : Cells w aA n gA (fun _ => True) (fun j => .bool (accB c j))) (iN : Cells w aN n gN (fun j => accB c j = true) (fun j => .int .i64 (numN c j : Nat)))
    (hcnt : cnt = numN c n) (hm : m = (expU c n n).length) (iK : Ints w aK m gK 0 (natInts (expU c n n)))
    (iL : LabsF W0 aL n bL oL c) (c0 : w.cell? ⟨pw, 0, none⟩ = some (.slice aG cnt cG)) (haG : 0 < cnt → aG = some ⟨gG, 0, none⟩) (hG : ∀ j, j < n → accB c j = true → LabAt w gG (numN c j * 6) (c j)) :
    Code.wp Try.prog (dropSeq 14 (Try.f6.body.getD .skip)) (bodyPost Try.prog Try.f6 fun e w' => e = .returned (.bool true) ∧ Below W0.heap.size W0 w')
      ⟨List.toArray ((.slice aL n cL) :: u1 :: u2 :: u3 :: (.slice aS n cS) :: u5 :: (.pointer (some ⟨pw, 0, none⟩)) :: (.slice aK m cK) :: u8 :: u9 :: (.slice aA n cA) :: (.slice aN n cN) :: (.int .i64 (cnt : Nat)) :: u13 :: u14 :: u15 :: u16 :: u17 :: u18 :: u19 :: u20 :: u21 :: u22 :: u23 :: u24 :: u25 :: u26 :: u27 :: u28 :: u29 :: u30 :: u31 :: u32 :: u33 :: u34 :: u35 :: u36 :: u37 :: u38 :: u39 :: u40 :: u41 :: u42 :: u43 :: u44 :: u45 :: u46 :: u47 :: u48 :: u49 :: u50 :: u51 :: u52 :: u53 :: u54 :: u55 :: u56 :: u57 :: u58 :: u59 :: u60 :: u61 :: u62 :: u63 :: u64 :: u65 :: u66 :: u67 :: u68 :: u69 :: u70 :: u71 :: u72 :: u73 :: u74 :: u75 :: u76 :: u77 :: u78 :: u79 :: u80 :: u81 :: u82 :: u83 :: u84 :: u85 :: u86 :: u87 :: u88 :: u89 :: u90 :: u91 :: u92 :: u93 :: u94 :: u95 :: u96 :: u97 :: u98 :: u99 :: u100 :: u101 :: u102 :: u103 :: u104 :: u105 :: u106 :: u107 :: u108 :: u109 :: u110 :: u111 :: u112 :: u113 :: u114 :: u115 :: u116 :: u117 :: u118 :: u119 :: u120 :: u121 :: u122 :: u123 :: u124 :: u125 :: u126 :: u127 :: u128 :: u129 :: u130 :: u131 :: u132 :: u133 :: u134 :: u135 :: u136 :: u137 :: u138 :: u139 :: u140 :: u141 :: u142 :: u143 :: u144 :: u145 :: u146 :: u147 :: u148 :: u149 :: u150 :: u151 :: u152 :: u153 :: u154 :: u155 :: u156 :: u157 :: u158 :: u159 :: u160 :: u161 :: u162 :: u163 :: u164 :: u165 :: u166 :: u167 :: u168 :: u169 :: u170 :: u171 :: u172 :: u173 :: u174 :: u175 :: u176 :: u177 :: u178 :: u179 :: u180 :: u181 :: u182 :: u183 :: u184 :: u185 :: u186 :: u187 :: u188 :: u189 :: u190 :: u191 :: u192 :: u193 :: u194 :: u195 :: u196 :: u197 :: u198 :: u199 :: u200 :: u201 :: u202 :: u203 :: u204 :: u205 :: u206 :: u207 :: u208 :: u209 :: u210 :: u211 :: u212 :: u213 :: u214 :: u215 :: u216 :: u217 :: u218 :: u219 :: u220 :: u221 :: u222 :: u223 :: u224 :: u225 :: u226 :: u227 :: u228 :: u229 :: u230 :: u231 :: u232 :: u233 :: u234 :: u235 :: u236 :: u237 :: u238 :: u239 :: u240 :: u241 :: u242 :: u243 :: u244 :: u245 :: u246 :: u247 :: []), []⟩ w := by
  have hcn := numN_le c n
  rw [← hcnt] at hcn
  have HC : Hid _ := hcnt
  have HM : Hid _ := hm
  clear hcnt hm
  go_step
  refine wp_drop 14 (Try.f6.body.getD .skip) (by kernel_rfl) (fun K hK => ?_)
  conv => arg 2; whnf
  go_wp2_with (go_at_call 23; refine (waysLabels_any _ _ _ _ _ c0).mono ?_; rintro e wx ⟨rfl, hwx⟩; have HWX : Hid _ := hwx; clear hwx)
  obtain rfl : w = wx := HWX.out.symm
  clear HWX c0
  refine wp_drop 15 (Try.f6.body.getD .skip) (by kernel_rfl) (fun K hK => ?_)
  conv => arg 2; whnf
  go_wp2
  refine wp_drop 16 (Try.f6.body.getD .skip) (by kernel_rfl) (fun K hK => ?_)
  conv => arg 2; whnf
  go_wp2_with fail
  go_loopw [16] (fun i wr => ∃ t : Nat, t ≤ n ∧ i = .int .i64 t ∧ Below w.heap.size w wr) (fun i _ => n - (intOf i).toNat)
  case atStart => exact ⟨0, Nat.zero_le _, rfl, Below.refl _ _⟩
  case round =>
    obtain ⟨t, ht, rfl, hbel⟩ := hrel
    by_cases hlt : t < n
    · have hlt' : (t : Int) < n := by omega
      obtain rfl := iA.ad (by omega)
      have xA := (iA.below hbel).cell t hlt trivial
      cases hacc : accB c t with
      | false =>
        rw [hacc] at xA
        have xAq : ∀ d os, (grow (redrawn wr d) os).cell? ⟨gA, t, none⟩ = some (.bool false) := fun d os => cell_regrown xA d os
        clear xA iA iN iS iK HM HC hW iL haG hG hacc
        go_wp2_with fail
        refine wp_region_quiet_below (by kernel_rfl) (by kernel_rfl) ?_
        repeat (first | go_big_quiet_step (fail) | quiet_step (fail))
        refine wpQuiet_nil ?_
        intro _ hw'
        obtain ⟨⟨dq, osq⟩, hw''⟩ := hw'
        subst hw''
        have hbw := below_regrown wr dq osq
        generalize grow (redrawn wr dq) osq = wq at *
        clear xAq
        go_wp2
        go_roundw
        case rel => exact ⟨t + 1, by omega, by go_num, hbel.trans (hbw.mono hbel.size)⟩
        case measure => simp [intOf]; omega
      | true =>
        rw [hacc] at xA
        have xN := (iN.below hbel).cell t hlt hacc
        have hq := numN_lt c hlt hacc
        rw [← HC.out] at hq
        have xG := (hG t hlt hacc).below hbel
        have xL := (iL.below (hW.trans (hbel.mono hW.size))).cell t hlt
        obtain rfl := iN.ad (by omega)
        obtain rfl := haG (by omega)
        obtain rfl := iL.ad (by omega)
        obtain ⟨x, hx⟩ : ∃ x, x = c t := ⟨_, rfl⟩
        rw [← hx] at xG xL
        generalize numN c t = q at *
        have hq' : (q : Int) < cnt := by omega
        have xAq : ∀ d os, (grow (redrawn wr d) os).cell? ⟨gA, t, none⟩ = some (.bool true) := fun d os => cell_regrown xA d os
        have xNq : ∀ d os, (grow (redrawn wr d) os).cell? ⟨gN, t, none⟩ = some (.int .i64 (q : Nat)) := fun d os => cell_regrown xN d os
        have e0 : ∀ d os, (grow (redrawn wr d) os).cell? ⟨gG, q * 6, none⟩ = some (.float .f64 x.wt) := fun d os => (xG.regrown d os).c0
        have e1 : ∀ d os, (grow (redrawn wr d) os).cell? ⟨gG, q * 6 + 1, none⟩ = some (.float .f64 x.lo) := fun d os => (xG.regrown d os).c1
        have e2 : ∀ d os, (grow (redrawn wr d) os).cell? ⟨gG, q * 6 + 2, none⟩ = some (.float .f64 x.de) := fun d os => (xG.regrown d os).c2
        have e3 : ∀ d os, (grow (redrawn wr d) os).cell? ⟨gG, q * 6 + 3, none⟩ = some (.int .i64 x.ho) := fun d os => (xG.regrown d os).c3
        have e4 : ∀ d os, (grow (redrawn wr d) os).cell? ⟨gG, q * 6 + 4, none⟩ = some (.int .i64 x.st) := fun d os => (xG.regrown d os).c4
        have e5 : ∀ d os, (grow (redrawn wr d) os).cell? ⟨gG, q * 6 + 5, none⟩ = some (.int .i64 x.pr) := fun d os => (xG.regrown d os).c5
        have b0 : ∀ d os, (grow (redrawn wr d) os).cell? ⟨bL, oL + t * 6, none⟩ = some (.float .f64 x.wt) := fun d os => (xL.regrown d os).c0
        have b1 : ∀ d os, (grow (redrawn wr d) os).cell? ⟨bL, oL + t * 6 + 1, none⟩ = some (.float .f64 x.lo) := fun d os => (xL.regrown d os).c1
        have b2 : ∀ d os, (grow (redrawn wr d) os).cell? ⟨bL, oL + t * 6 + 2, none⟩ = some (.float .f64 x.de) := fun d os => (xL.regrown d os).c2
        have b3 : ∀ d os, (grow (redrawn wr d) os).cell? ⟨bL, oL + t * 6 + 3, none⟩ = some (.int .i64 x.ho) := fun d os => (xL.regrown d os).c3
        have b4 : ∀ d os, (grow (redrawn wr d) os).cell? ⟨bL, oL + t * 6 + 4, none⟩ = some (.int .i64 x.st) := fun d os => (xL.regrown d os).c4
        have b5 : ∀ d os, (grow (redrawn wr d) os).cell? ⟨bL, oL + t * 6 + 5, none⟩ = some (.int .i64 x.pr) := fun d os => (xL.regrown d os).c5
        clear xA xN iA iN iS iK HM HC hW iL haG hG hacc hx xG xL
        go_wp2_with fail
        refine wp_region_quiet_below (by kernel_rfl) (by kernel_rfl) ?_
        repeat (first | go_big_quiet_step ((first | (go_at_call 25; exact Calls.regrown_of (fromLabel_any _ _ _ _ _ _ _)) | (go_at_call 24; exact Calls.regrown_of (sameLabel_refl _ _ _ _ _ _ _)))) | quiet_step ((first | (go_at_call 25; exact Calls.regrown_of (fromLabel_any _ _ _ _ _ _ _)) | (go_at_call 24; exact Calls.regrown_of (sameLabel_refl _ _ _ _ _ _ _)))))
        refine wpQuiet_nil ?_
        intro _ hw'
        obtain ⟨⟨dq, osq⟩, hw''⟩ := hw'
        subst hw''
        have hbw := below_regrown wr dq osq
        generalize grow (redrawn wr dq) osq = wq at *
        clear xAq xNq e0 e1 e2 e3 e4 e5 b0 b1 b2 b3 b4 b5
        go_wp2
        go_roundw
        case rel => exact ⟨t + 1, by omega, by go_num, hbel.trans (hbw.mono hbel.size)⟩
        case measure => simp [intOf]; omega
    · go_wp2
      exact f6_tail17 c (hW.trans (hbel.mono hW.size)) bn (iS.below hbel) (iA.below hbel) (iN.below hbel) HC.out HM.out (iK.below hbel)
end Go.Proofs.Qxb6601457a
