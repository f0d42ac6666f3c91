import Derived.Test.Qxb6601457aLawC
import Derived.Test.Qxb6601457aSeq
import Derived.BigQuiet
namespace Go.Proofs.Qxb6601457a
set_option linter.unusedSimpArgs false
set_option linter.unusedVariables false
open Go.RowKit Go.Sort
attribute [local go_sem] run_store_float

theorem hitB_take_succ (ls : List Lab) (d c : Lab) (ks : List Nat) (k : Nat) (h : k < ks.length) :
    hitB ls d c (ks.take (k + 1)) = (hitB ls d c (ks.take k) || asGoodB (ls.getD (ks.getD k 0) d) c) := by
  have e : ks.take (k + 1) = ks.take k ++ [ks.getD k 0] := by
    rw [List.take_succ_eq_append_getElem h]; simp [List.getD, h]
  rw [e]
  unfold hitB
  rw [List.any_append]
  simp


set_option maxRecDepth 100000 in
set_option maxHeartbeats 3200000 in
theorem f5_tail13_hit {u3 u4 u5 u6 u7 u8 u10 u11 u12 u13 u15 u16 u21 u22 u23 u24 u25 u26 u27 u28 u29 u30 u31 u32 u33 u34 u35 u36 u37 u38 u39 u40 u41 u42 u43 u44 u45 u46 u47 u48 u49 u50 u51 u52 u53 u54 u55 u56 u57 u58 u59 u60 u61 u62 u63 u64 u65 u66 u67 u68 u69 u70 u71 u72 u73 u74 u75 u76 u77 u78 u79 u80 u81 u82 u83 u84 u85 u86 u87 u88 u89 u90 u91 u92 u93 u94 u95 u96 u97 u98 u99 u100 u101 u102 u103 u104 u105 u106 u107 u108 u109 u110 u111 u112 u113 u114 u115 u116 u117 u118 u119 u120 u121 u122 u123 u124 u125 u126 u127 u128 u129 u130 u131 u132 u133 u134 u135 u136 u137 u138 u139 u140 u141 u142 u143 u144 u145 u146 u147 u148 u149 u150 u151 u152 u153 u154 u155 u156 u157 u158 u159 u160 u161 u162 u163 u164 u165 u166 u167 u168 u169 u170 u171 u172 u173 u174 u175 u176 u177 u178 u179 u180 u181 u182 u183 u184 u185 u186 u187 u188 u189 u190 u191 u192 u193 u194 u195 u196 u197 u198 u199 u200 u201 u202 u203 u204 u205 u206 u207 u208 u209 u210 u211 u212 u213 u214 u215 u216 u217 u218 u219 u220 u221 u222 u223 u224 u225 u226 u227 u228 u229 u230 u231 u232 u233 u234 u235 u236 u237 u238 u239 u240 u241 u242 u243 u244 u245 u246 u247 u248 u249 u250 u251 u252 u253 u254 u255 u256 u257 u258 u259 u260 u261 u262 u263 u264 u265 u266 u267 u268 u269 u270 u271 u272 u273 u274 u275 u276 u277 u278 u279 u280 u281 u282 u283 u284 u285 u286 u287 u288 u289 u290 u291 u292 u293 u294 u295 u296 u297 u298 u299 u300 u301 u302 u303 u304 u305 u306 u307 u308 u309 u310 u311 u312 u313 : Value} {st : Int} {pw : Nat} {W0 w : World} {aK aB aR aG aL : Option Addr} {nK cK nB cB nR cR bK oK gB gR nG cG gG nl cL bL oL bc bcl : Nat} (ks bs rs : List Int) (ls : List Lab) (d c : Lab)
    (hW : Below W0.heap.size W0 w) (bnB : nB ≤ 4194304) (iK : Ints w aK nK bK oK ks) (iB : Ints w aB nB gB 0 bs) (iR : Ints w aR nR gR 0 rs)
    (hlaw : ∀ j, j < nB → bs.getD j 0 = if j < nR then rs.getD j 0 else if j < nK then ks.getD j 0 else -7)
    (bnl : nl ≤ 2097152) (bnK : nK ≤ 2097152) (iL : Labs w aL nl bL oL ls d) (iG : Labs w aG nl gG 0 ls d) (hnG : nG = nl) (cc : LabAt w bc 0 c)
    (c0 : w.cell? ⟨pw, 0, none⟩ = some (.slice aG nG cG)) (c1 : w.cell? ⟨pw, 1, none⟩ = some (.int .i64 (wrap64 (st + nK))))
    (kn : List Nat) (hkn : kn.length = nK) (hkk : ∀ j, j < nK → ks.getD j 0 = ((kn.getD j 0 : Nat) : Int)) (hin : ∀ j, j < nK → kn.getD j 0 < nl) (ccl : LabAt w bcl 0 c)
    (hh : hitB ls d c kn = true) (hnR : nR = nK) (hrk : ∀ j, j < nK → rs.getD j 0 = ks.getD j 0) :
    Code.wp Try.prog (dropSeq 13 (Try.f5.body.getD .skip)) (bodyPost Try.prog Try.f5 fun e w' => e = .returned (.bool true) ∧ Below W0.heap.size W0 w')
      ⟨List.toArray ((.slice aL nl cL) :: (.int .i64 st) :: (.slice aK nK cK) :: u3 :: u4 :: u5 :: u6 :: u7 :: u8 :: (.pointer (some ⟨bc, 0, none⟩)) :: u10 :: u11 :: u12 :: u13 :: (.slice aB nB cB) :: u15 :: u16 :: (.pointer (some ⟨bcl, 0, none⟩)) :: (.pointer (some ⟨pw, 0, none⟩)) :: (.slice aR nR cR) :: (.bool false) :: u21 :: u22 :: u23 :: u24 :: u25 :: u26 :: u27 :: u28 :: u29 :: u30 :: u31 :: u32 :: u33 :: u34 :: u35 :: u36 :: u37 :: u38 :: u39 :: u40 :: u41 :: u42 :: u43 :: u44 :: u45 :: u46 :: u47 :: u48 :: u49 :: u50 :: u51 :: u52 :: u53 :: u54 :: u55 :: u56 :: u57 :: u58 :: u59 :: u60 :: u61 :: u62 :: u63 :: u64 :: u65 :: u66 :: u67 :: u68 :: u69 :: u70 :: u71 :: u72 :: u73 :: u74 :: u75 :: u76 :: u77 :: u78 :: u79 :: u80 :: u81 :: u82 :: u83 :: u84 :: u85 :: u86 :: u87 :: u88 :: u89 :: u90 :: u91 :: u92 :: u93 :: u94 :: u95 :: u96 :: u97 :: u98 :: u99 :: u100 :: u101 :: u102 :: u103 :: u104 :: u105 :: u106 :: u107 :: u108 :: u109 :: u110 :: u111 :: u112 :: u113 :: u114 :: u115 :: u116 :: u117 :: u118 :: u119 :: u120 :: u121 :: u122 :: u123 :: u124 :: u125 :: u126 :: u127 :: u128 :: u129 :: u130 :: u131 :: u132 :: u133 :: u134 :: u135 :: u136 :: u137 :: u138 :: u139 :: u140 :: u141 :: u142 :: u143 :: u144 :: u145 :: u146 :: u147 :: u148 :: u149 :: u150 :: u151 :: u152 :: u153 :: u154 :: u155 :: u156 :: u157 :: u158 :: u159 :: u160 :: u161 :: u162 :: u163 :: u164 :: u165 :: u166 :: u167 :: u168 :: u169 :: u170 :: u171 :: u172 :: u173 :: u174 :: u175 :: u176 :: u177 :: u178 :: u179 :: u180 :: u181 :: u182 :: u183 :: u184 :: u185 :: u186 :: u187 :: u188 :: u189 :: u190 :: u191 :: u192 :: u193 :: u194 :: u195 :: u196 :: u197 :: u198 :: u199 :: u200 :: u201 :: u202 :: u203 :: u204 :: u205 :: u206 :: u207 :: u208 :: u209 :: u210 :: u211 :: u212 :: u213 :: u214 :: u215 :: u216 :: u217 :: u218 :: u219 :: u220 :: u221 :: u222 :: u223 :: u224 :: u225 :: u226 :: u227 :: u228 :: u229 :: u230 :: u231 :: u232 :: u233 :: u234 :: u235 :: u236 :: u237 :: u238 :: u239 :: u240 :: u241 :: u242 :: u243 :: u244 :: u245 :: u246 :: u247 :: u248 :: u249 :: u250 :: u251 :: u252 :: u253 :: u254 :: u255 :: u256 :: u257 :: u258 :: u259 :: u260 :: u261 :: u262 :: u263 :: u264 :: u265 :: u266 :: u267 :: u268 :: u269 :: u270 :: u271 :: u272 :: u273 :: u274 :: u275 :: u276 :: u277 :: u278 :: u279 :: u280 :: u281 :: u282 :: u283 :: u284 :: u285 :: u286 :: u287 :: u288 :: u289 :: u290 :: u291 :: u292 :: u293 :: u294 :: u295 :: u296 :: u297 :: u298 :: u299 :: u300 :: u301 :: u302 :: u303 :: u304 :: u305 :: u306 :: u307 :: u308 :: u309 :: u310 :: u311 :: u312 :: u313 :: []), []⟩ w := by
  have HnG : Hid _ := hnG
  clear hnG
  have HnR : Hid _ := hnR
  clear hnR
  have Hrk : Hid _ := hrk
  clear hrk
  have HL : Hid _ := hlaw
  have HK : Hid _ := hkk
  have HKN : Hid _ := hkn
  have HH : Hid _ := hh
  clear hlaw hkk hkn hh
  go_step
  refine wp_drop 13 (Try.f5.body.getD .skip) (by kernel_rfl) (fun K hK => ?_)
  conv => arg 2; whnf
  go_wp2_with fail
  go_loopw [20, 21] (fun m i wr => ∃ k : Nat, k ≤ nK ∧ i = .int .i64 k ∧ m = .bool (hitB ls d c (kn.take k)) ∧ Below w.heap.size w wr) (fun _ i _ => nK - (intOf i).toNat)
  case atStart => exact ⟨0, Nat.zero_le _, rfl, rfl, Below.refl _ _⟩
  case round =>
    obtain ⟨k, hk, rfl, rfl, hbel⟩ := hrel
    by_cases hlt : k < nK
    · have hlt' : (k : Int) < nK := by omega
      obtain ⟨a, ha⟩ : ∃ a, a = kn.getD k 0 := ⟨_, rfl⟩
      obtain ⟨x, hx⟩ : ∃ x, x = ls.getD a d := ⟨_, rfl⟩
      have hal0 : a < nl := ha ▸ hin k hlt
      have hal : (a : Int) < nl := by omega
      obtain rfl := iK.ad (by omega)
      obtain rfl := iL.ad (by omega)
      have xk := (iK.below hbel).cell k hlt
      rw [HK.out k hlt, ← ha] at xk
      have xkq : ∀ d os, (grow (redrawn wr d) os).cell? ⟨bK, oK + k, none⟩ = some (.int .i64 (a : Int)) := fun d os => cell_regrown xk d os
      have xlab : LabAt wr bL (oL + a * 6) x := hx ▸ (iL.below hbel).cell a hal0
      have xcl := ccl.below hbel
      have e0 : ∀ d os, (grow (redrawn wr d) os).cell? ⟨bL, oL + a * 6, none⟩ = some (.float .f64 x.wt) := fun d os => (xlab.regrown d os).c0
      have e1 : ∀ d os, (grow (redrawn wr d) os).cell? ⟨bL, oL + a * 6 + 1, none⟩ = some (.float .f64 x.lo) := fun d os => (xlab.regrown d os).c1
      have e2 : ∀ d os, (grow (redrawn wr d) os).cell? ⟨bL, oL + a * 6 + 2, none⟩ = some (.float .f64 x.de) := fun d os => (xlab.regrown d os).c2
      have e3 : ∀ d os, (grow (redrawn wr d) os).cell? ⟨bL, oL + a * 6 + 3, none⟩ = some (.int .i64 x.ho) := fun d os => (xlab.regrown d os).c3
      have e4 : ∀ d os, (grow (redrawn wr d) os).cell? ⟨bL, oL + a * 6 + 4, none⟩ = some (.int .i64 x.st) := fun d os => (xlab.regrown d os).c4
      have e5 : ∀ d os, (grow (redrawn wr d) os).cell? ⟨bL, oL + a * 6 + 5, none⟩ = some (.int .i64 x.pr) := fun d os => (xlab.regrown d os).c5
      have b0 : ∀ d os, (grow (redrawn wr d) os).cell? ⟨bcl, 0, none⟩ = some (.float .f64 c.wt) := fun d os => (xcl.regrown d os).c0
      have b1 : ∀ d os, (grow (redrawn wr d) os).cell? ⟨bcl, 1, none⟩ = some (.float .f64 c.lo) := fun d os => (xcl.regrown d os).c1
      have b2 : ∀ d os, (grow (redrawn wr d) os).cell? ⟨bcl, 2, none⟩ = some (.float .f64 c.de) := fun d os => (xcl.regrown d os).c2
      have b3 : ∀ d os, (grow (redrawn wr d) os).cell? ⟨bcl, 3, none⟩ = some (.int .i64 c.ho) := fun d os => (xcl.regrown d os).c3
      have b4 : ∀ d os, (grow (redrawn wr d) os).cell? ⟨bcl, 4, none⟩ = some (.int .i64 c.st) := fun d os => (xcl.regrown d os).c4
      have b5 : ∀ d os, (grow (redrawn wr d) os).cell? ⟨bcl, 5, none⟩ = some (.int .i64 c.pr) := fun d os => (xcl.regrown d os).c5
      have hsucc := hitB_take_succ ls d c kn k (by rw [HKN.out]; exact hlt)
      rw [← ha, ← hx] at hsucc
      have HS : Hid _ := hsucc
      generalize hitB ls d c (kn.take k) = mk at *
      clear ha hx hsucc iK iB iR HL iL iG cc c0 c1 hW hin HK ccl xcl xlab hal0 xk
      by_cases hd : asGoodB x c = true
      · rw [hd, Bool.or_true] at HS
        go_wp2_with fail
        refine wp_region_quiet_below (by kernel_rfl) (by kernel_rfl) ?_
        repeat (first | go_big_quiet_step ((first | (go_at_call 18; exact Calls.regrown_of (toLabel_any _ _ _ _ _ _ _)) | (go_at_call 21; exact Calls.regrown_of (zzAsGood_eq _ _ _ hd _)))) | quiet_step ((first | (go_at_call 18; exact Calls.regrown_of (toLabel_any _ _ _ _ _ _ _)) | (go_at_call 21; exact Calls.regrown_of (zzAsGood_eq _ _ _ hd _)))))
        refine wpQuiet_nil ?_
        intro _ hw'
        obtain ⟨⟨dq, osq⟩, hw''⟩ := hw'
        subst hw''
        have hbw := below_regrown wr dq osq
        generalize grow (redrawn wr dq) osq = wq at *
        clear xkq e0 e1 e2 e3 e4 e5 b0 b1 b2 b3 b4 b5
        go_wp2
        go_roundw
        case rel => exact ⟨k + 1, by omega, by go_num, by rw [HS.out], hbel.trans (hbw.mono hbel.size)⟩
        case measure => simp [intOf]; omega
      · have hd' : asGoodB x c = false := by simpa using hd
        rw [hd', Bool.or_false] at HS
        clear hd
        go_wp2_with fail
        refine wp_region_quiet_below (by kernel_rfl) (by kernel_rfl) ?_
        repeat (first | go_big_quiet_step ((first | (go_at_call 18; exact Calls.regrown_of (toLabel_any _ _ _ _ _ _ _)) | (go_at_call 21; exact Calls.regrown_of (zzAsGood_eq _ _ _ hd' _)))) | quiet_step ((first | (go_at_call 18; exact Calls.regrown_of (toLabel_any _ _ _ _ _ _ _)) | (go_at_call 21; exact Calls.regrown_of (zzAsGood_eq _ _ _ hd' _)))))
        refine wpQuiet_nil ?_
        intro _ hw'
        obtain ⟨⟨dq, osq⟩, hw''⟩ := hw'
        subst hw''
        have hbw := below_regrown wr dq osq
        generalize grow (redrawn wr dq) osq = wq at *
        clear xkq e0 e1 e2 e3 e4 e5 b0 b1 b2 b3 b4 b5
        go_wp2
        go_roundw
        case rel => exact ⟨k + 1, by omega, by go_num, by rw [HS.out], hbel.trans (hbw.mono hbel.size)⟩
        case measure => simp [intOf]; omega
    · obtain rfl : nK = k := by omega
      have hall : hitB ls d c (kn.take nK) = true := by rw [List.take_of_length_le (by rw [HKN.out]; exact Nat.le_refl _), HH.out]
      rw [hall]
      clear hall
      go_wp2
      exact f5_tail14_hit (gG := gG) ks bs rs ls d c (hW.trans (hbel.mono hW.size)) bnB (iK.below hbel) (iB.below hbel) (iR.below hbel) HL.out bnl bnK (iL.below hbel) (iG.below hbel) HnG.out (cc.below hbel) (cell_later hbel c0) (cell_later hbel c1) HnR.out Hrk.out

set_option maxRecDepth 100000 in
set_option maxHeartbeats 3200000 in
theorem f5_tail13_miss {u3 u4 u5 u6 u7 u8 u10 u11 u12 u13 u15 u16 u21 u22 u23 u24 u25 u26 u27 u28 u29 u30 u31 u32 u33 u34 u35 u36 u37 u38 u39 u40 u41 u42 u43 u44 u45 u46 u47 u48 u49 u50 u51 u52 u53 u54 u55 u56 u57 u58 u59 u60 u61 u62 u63 u64 u65 u66 u67 u68 u69 u70 u71 u72 u73 u74 u75 u76 u77 u78 u79 u80 u81 u82 u83 u84 u85 u86 u87 u88 u89 u90 u91 u92 u93 u94 u95 u96 u97 u98 u99 u100 u101 u102 u103 u104 u105 u106 u107 u108 u109 u110 u111 u112 u113 u114 u115 u116 u117 u118 u119 u120 u121 u122 u123 u124 u125 u126 u127 u128 u129 u130 u131 u132 u133 u134 u135 u136 u137 u138 u139 u140 u141 u142 u143 u144 u145 u146 u147 u148 u149 u150 u151 u152 u153 u154 u155 u156 u157 u158 u159 u160 u161 u162 u163 u164 u165 u166 u167 u168 u169 u170 u171 u172 u173 u174 u175 u176 u177 u178 u179 u180 u181 u182 u183 u184 u185 u186 u187 u188 u189 u190 u191 u192 u193 u194 u195 u196 u197 u198 u199 u200 u201 u202 u203 u204 u205 u206 u207 u208 u209 u210 u211 u212 u213 u214 u215 u216 u217 u218 u219 u220 u221 u222 u223 u224 u225 u226 u227 u228 u229 u230 u231 u232 u233 u234 u235 u236 u237 u238 u239 u240 u241 u242 u243 u244 u245 u246 u247 u248 u249 u250 u251 u252 u253 u254 u255 u256 u257 u258 u259 u260 u261 u262 u263 u264 u265 u266 u267 u268 u269 u270 u271 u272 u273 u274 u275 u276 u277 u278 u279 u280 u281 u282 u283 u284 u285 u286 u287 u288 u289 u290 u291 u292 u293 u294 u295 u296 u297 u298 u299 u300 u301 u302 u303 u304 u305 u306 u307 u308 u309 u310 u311 u312 u313 : Value} {st : Int} {pw : Nat} {W0 w : World} {aK aB aR aG aL : Option Addr} {nK cK nB cB nR cR bK oK gB gR nG cG gG nl cL bL oL bc bcl : Nat} (ks bs rs : List Int) (ls : List Lab) (d c : Lab)
    (hW : Below W0.heap.size W0 w) (bnB : nB ≤ 4194304) (iK : Ints w aK nK bK oK ks) (iB : Ints w aB nB gB 0 bs) (iR : Ints w aR nR gR 0 rs)
    (hlaw : ∀ j, j < nB → bs.getD j 0 = if j < nR then rs.getD j 0 else if j < nK then ks.getD j 0 else -7)
    (bnl : nl ≤ 2097152) (bnK : nK ≤ 2097152) (iL : Labs w aL nl bL oL ls d) (iG : Labs w aG nl gG 0 ls d) (hnG : nG = nl + 1) (hG : aG = some ⟨gG, 0, none⟩) (lc : LabAt w gG (nl * 6) c) (cc : LabAt w bc 0 c)
    (c0 : w.cell? ⟨pw, 0, none⟩ = some (.slice aG nG cG)) (c1 : w.cell? ⟨pw, 1, none⟩ = some (.int .i64 (wrap64 (st + nK))))
    (kn : List Nat) (hkn : kn.length = nK) (hkk : ∀ j, j < nK → ks.getD j 0 = ((kn.getD j 0 : Nat) : Int)) (hin : ∀ j, j < nK → kn.getD j 0 < nl) (ccl : LabAt w bcl 0 c)
    (hh : hitB ls d c kn = false) (hnR : nR = (leftL ls d c kn).length + 1) (hrF : ∀ j, j < (leftL ls d c kn).length → rs.getD j 0 = (((leftL ls d c kn).getD j 0 : Nat) : Int)) (hrl : rs.getD (leftL ls d c kn).length 0 = nl) :
    Code.wp Try.prog (dropSeq 13 (Try.f5.body.getD .skip)) (bodyPost Try.prog Try.f5 fun e w' => e = .returned (.bool true) ∧ Below W0.heap.size W0 w')
      ⟨List.toArray ((.slice aL nl cL) :: (.int .i64 st) :: (.slice aK nK cK) :: u3 :: u4 :: u5 :: u6 :: u7 :: u8 :: (.pointer (some ⟨bc, 0, none⟩)) :: u10 :: u11 :: u12 :: u13 :: (.slice aB nB cB) :: u15 :: u16 :: (.pointer (some ⟨bcl, 0, none⟩)) :: (.pointer (some ⟨pw, 0, none⟩)) :: (.slice aR nR cR) :: (.bool false) :: u21 :: u22 :: u23 :: u24 :: u25 :: u26 :: u27 :: u28 :: u29 :: u30 :: u31 :: u32 :: u33 :: u34 :: u35 :: u36 :: u37 :: u38 :: u39 :: u40 :: u41 :: u42 :: u43 :: u44 :: u45 :: u46 :: u47 :: u48 :: u49 :: u50 :: u51 :: u52 :: u53 :: u54 :: u55 :: u56 :: u57 :: u58 :: u59 :: u60 :: u61 :: u62 :: u63 :: u64 :: u65 :: u66 :: u67 :: u68 :: u69 :: u70 :: u71 :: u72 :: u73 :: u74 :: u75 :: u76 :: u77 :: u78 :: u79 :: u80 :: u81 :: u82 :: u83 :: u84 :: u85 :: u86 :: u87 :: u88 :: u89 :: u90 :: u91 :: u92 :: u93 :: u94 :: u95 :: u96 :: u97 :: u98 :: u99 :: u100 :: u101 :: u102 :: u103 :: u104 :: u105 :: u106 :: u107 :: u108 :: u109 :: u110 :: u111 :: u112 :: u113 :: u114 :: u115 :: u116 :: u117 :: u118 :: u119 :: u120 :: u121 :: u122 :: u123 :: u124 :: u125 :: u126 :: u127 :: u128 :: u129 :: u130 :: u131 :: u132 :: u133 :: u134 :: u135 :: u136 :: u137 :: u138 :: u139 :: u140 :: u141 :: u142 :: u143 :: u144 :: u145 :: u146 :: u147 :: u148 :: u149 :: u150 :: u151 :: u152 :: u153 :: u154 :: u155 :: u156 :: u157 :: u158 :: u159 :: u160 :: u161 :: u162 :: u163 :: u164 :: u165 :: u166 :: u167 :: u168 :: u169 :: u170 :: u171 :: u172 :: u173 :: u174 :: u175 :: u176 :: u177 :: u178 :: u179 :: u180 :: u181 :: u182 :: u183 :: u184 :: u185 :: u186 :: u187 :: u188 :: u189 :: u190 :: u191 :: u192 :: u193 :: u194 :: u195 :: u196 :: u197 :: u198 :: u199 :: u200 :: u201 :: u202 :: u203 :: u204 :: u205 :: u206 :: u207 :: u208 :: u209 :: u210 :: u211 :: u212 :: u213 :: u214 :: u215 :: u216 :: u217 :: u218 :: u219 :: u220 :: u221 :: u222 :: u223 :: u224 :: u225 :: u226 :: u227 :: u228 :: u229 :: u230 :: u231 :: u232 :: u233 :: u234 :: u235 :: u236 :: u237 :: u238 :: u239 :: u240 :: u241 :: u242 :: u243 :: u244 :: u245 :: u246 :: u247 :: u248 :: u249 :: u250 :: u251 :: u252 :: u253 :: u254 :: u255 :: u256 :: u257 :: u258 :: u259 :: u260 :: u261 :: u262 :: u263 :: u264 :: u265 :: u266 :: u267 :: u268 :: u269 :: u270 :: u271 :: u272 :: u273 :: u274 :: u275 :: u276 :: u277 :: u278 :: u279 :: u280 :: u281 :: u282 :: u283 :: u284 :: u285 :: u286 :: u287 :: u288 :: u289 :: u290 :: u291 :: u292 :: u293 :: u294 :: u295 :: u296 :: u297 :: u298 :: u299 :: u300 :: u301 :: u302 :: u303 :: u304 :: u305 :: u306 :: u307 :: u308 :: u309 :: u310 :: u311 :: u312 :: u313 :: []), []⟩ w := by
  have HnG : Hid _ := hnG
  clear hnG
  have HG : Hid _ := hG
  clear hG
  have HnR : Hid _ := hnR
  clear hnR
  have HrF : Hid _ := hrF
  clear hrF
  have Hrl : Hid _ := hrl
  clear hrl
  have HL : Hid _ := hlaw
  have HK : Hid _ := hkk
  have HKN : Hid _ := hkn
  have HH : Hid _ := hh
  clear hlaw hkk hkn hh
  go_step
  refine wp_drop 13 (Try.f5.body.getD .skip) (by kernel_rfl) (fun K hK => ?_)
  conv => arg 2; whnf
  go_wp2_with fail
  go_loopw [20, 21] (fun m i wr => ∃ k : Nat, k ≤ nK ∧ i = .int .i64 k ∧ m = .bool (hitB ls d c (kn.take k)) ∧ Below w.heap.size w wr) (fun _ i _ => nK - (intOf i).toNat)
  case atStart => exact ⟨0, Nat.zero_le _, rfl, rfl, Below.refl _ _⟩
  case round =>
    obtain ⟨k, hk, rfl, rfl, hbel⟩ := hrel
    by_cases hlt : k < nK
    · have hlt' : (k : Int) < nK := by omega
      obtain ⟨a, ha⟩ : ∃ a, a = kn.getD k 0 := ⟨_, rfl⟩
      obtain ⟨x, hx⟩ : ∃ x, x = ls.getD a d := ⟨_, rfl⟩
      have hal0 : a < nl := ha ▸ hin k hlt
      have hal : (a : Int) < nl := by omega
      obtain rfl := iK.ad (by omega)
      obtain rfl := iL.ad (by omega)
      have xk := (iK.below hbel).cell k hlt
      rw [HK.out k hlt, ← ha] at xk
      have xkq : ∀ d os, (grow (redrawn wr d) os).cell? ⟨bK, oK + k, none⟩ = some (.int .i64 (a : Int)) := fun d os => cell_regrown xk d os
      have xlab : LabAt wr bL (oL + a * 6) x := hx ▸ (iL.below hbel).cell a hal0
      have xcl := ccl.below hbel
      have e0 : ∀ d os, (grow (redrawn wr d) os).cell? ⟨bL, oL + a * 6, none⟩ = some (.float .f64 x.wt) := fun d os => (xlab.regrown d os).c0
      have e1 : ∀ d os, (grow (redrawn wr d) os).cell? ⟨bL, oL + a * 6 + 1, none⟩ = some (.float .f64 x.lo) := fun d os => (xlab.regrown d os).c1
      have e2 : ∀ d os, (grow (redrawn wr d) os).cell? ⟨bL, oL + a * 6 + 2, none⟩ = some (.float .f64 x.de) := fun d os => (xlab.regrown d os).c2
      have e3 : ∀ d os, (grow (redrawn wr d) os).cell? ⟨bL, oL + a * 6 + 3, none⟩ = some (.int .i64 x.ho) := fun d os => (xlab.regrown d os).c3
      have e4 : ∀ d os, (grow (redrawn wr d) os).cell? ⟨bL, oL + a * 6 + 4, none⟩ = some (.int .i64 x.st) := fun d os => (xlab.regrown d os).c4
      have e5 : ∀ d os, (grow (redrawn wr d) os).cell? ⟨bL, oL + a * 6 + 5, none⟩ = some (.int .i64 x.pr) := fun d os => (xlab.regrown d os).c5
      have b0 : ∀ d os, (grow (redrawn wr d) os).cell? ⟨bcl, 0, none⟩ = some (.float .f64 c.wt) := fun d os => (xcl.regrown d os).c0
      have b1 : ∀ d os, (grow (redrawn wr d) os).cell? ⟨bcl, 1, none⟩ = some (.float .f64 c.lo) := fun d os => (xcl.regrown d os).c1
      have b2 : ∀ d os, (grow (redrawn wr d) os).cell? ⟨bcl, 2, none⟩ = some (.float .f64 c.de) := fun d os => (xcl.regrown d os).c2
      have b3 : ∀ d os, (grow (redrawn wr d) os).cell? ⟨bcl, 3, none⟩ = some (.int .i64 c.ho) := fun d os => (xcl.regrown d os).c3
      have b4 : ∀ d os, (grow (redrawn wr d) os).cell? ⟨bcl, 4, none⟩ = some (.int .i64 c.st) := fun d os => (xcl.regrown d os).c4
      have b5 : ∀ d os, (grow (redrawn wr d) os).cell? ⟨bcl, 5, none⟩ = some (.int .i64 c.pr) := fun d os => (xcl.regrown d os).c5
      have hsucc := hitB_take_succ ls d c kn k (by rw [HKN.out]; exact hlt)
      rw [← ha, ← hx] at hsucc
      have HS : Hid _ := hsucc
      generalize hitB ls d c (kn.take k) = mk at *
      clear ha hx hsucc iK iB iR HL iL iG cc c0 c1 hW hin HK ccl xcl xlab hal0 xk
      by_cases hd : asGoodB x c = true
      all_goals clear lc
      · rw [hd, Bool.or_true] at HS
        go_wp2_with fail
        refine wp_region_quiet_below (by kernel_rfl) (by kernel_rfl) ?_
        repeat (first | go_big_quiet_step ((first | (go_at_call 18; exact Calls.regrown_of (toLabel_any _ _ _ _ _ _ _)) | (go_at_call 21; exact Calls.regrown_of (zzAsGood_eq _ _ _ hd _)))) | quiet_step ((first | (go_at_call 18; exact Calls.regrown_of (toLabel_any _ _ _ _ _ _ _)) | (go_at_call 21; exact Calls.regrown_of (zzAsGood_eq _ _ _ hd _)))))
        refine wpQuiet_nil ?_
        intro _ hw'
        obtain ⟨⟨dq, osq⟩, hw''⟩ := hw'
        subst hw''
        have hbw := below_regrown wr dq osq
        generalize grow (redrawn wr dq) osq = wq at *
        clear xkq e0 e1 e2 e3 e4 e5 b0 b1 b2 b3 b4 b5
        go_wp2
        go_roundw
        case rel => exact ⟨k + 1, by omega, by go_num, by rw [HS.out], hbel.trans (hbw.mono hbel.size)⟩
        case measure => simp [intOf]; omega
      · have hd' : asGoodB x c = false := by simpa using hd
        rw [hd', Bool.or_false] at HS
        clear hd
        go_wp2_with fail
        refine wp_region_quiet_below (by kernel_rfl) (by kernel_rfl) ?_
        repeat (first | go_big_quiet_step ((first | (go_at_call 18; exact Calls.regrown_of (toLabel_any _ _ _ _ _ _ _)) | (go_at_call 21; exact Calls.regrown_of (zzAsGood_eq _ _ _ hd' _)))) | quiet_step ((first | (go_at_call 18; exact Calls.regrown_of (toLabel_any _ _ _ _ _ _ _)) | (go_at_call 21; exact Calls.regrown_of (zzAsGood_eq _ _ _ hd' _)))))
        refine wpQuiet_nil ?_
        intro _ hw'
        obtain ⟨⟨dq, osq⟩, hw''⟩ := hw'
        subst hw''
        have hbw := below_regrown wr dq osq
        generalize grow (redrawn wr dq) osq = wq at *
        clear xkq e0 e1 e2 e3 e4 e5 b0 b1 b2 b3 b4 b5
        go_wp2
        go_roundw
        case rel => exact ⟨k + 1, by omega, by go_num, by rw [HS.out], hbel.trans (hbw.mono hbel.size)⟩
        case measure => simp [intOf]; omega
    · obtain rfl : nK = k := by omega
      have hall : hitB ls d c (kn.take nK) = false := by rw [List.take_of_length_le (by rw [HKN.out]; exact Nat.le_refl _), HH.out]
      rw [hall]
      clear hall
      go_wp2
      exact f5_tail14_miss ks bs rs ls d c (hW.trans (hbel.mono hW.size)) bnB (iK.below hbel) (iB.below hbel) (iR.below hbel) HL.out bnl bnK (iL.below hbel) (iG.below hbel) HnG.out HG.out (lc.below hbel) (cc.below hbel) (cell_later hbel c0) (cell_later hbel c1) kn HKN.out HK.out hin (ccl.below hbel) HnR.out HrF.out Hrl.out
end Go.Proofs.Qxb6601457a
