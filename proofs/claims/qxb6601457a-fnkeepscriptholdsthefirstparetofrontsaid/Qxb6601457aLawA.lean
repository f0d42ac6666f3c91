import Derived.Test.Qxb6601457aKeep
import Derived.Test.Qxb6601457aSeq
import Derived.BigQuiet
namespace Go.Proofs.Qxb6601457a
set_option linter.unusedSimpArgs false
set_option linter.unusedVariables false
open Go.RowKit Go.Sort
attribute [local go_sem] run_store_float

set_option maxRecDepth 100000 in
set_option maxHeartbeats 1600000 in
theorem f5_tail22 {u0 u1 u3 u4 u5 u6 u7 u8 u9 u10 u11 u12 u13 u15 u16 u17 u18 u20 u21 u22 u23 u24 u25 u26 u27 u28 u29 u30 u31 u32 u33 u34 u35 u36 u37 u38 u39 u40 u41 u42 u43 u44 u45 u46 u47 u48 u49 u50 u51 u52 u53 u54 u55 u56 u57 u58 u59 u60 u61 u62 u63 u64 u65 u66 u67 u68 u69 u70 u71 u72 u73 u74 u75 u76 u77 u78 u79 u80 u81 u82 u83 u84 u85 u86 u87 u88 u89 u90 u91 u92 u93 u94 u95 u96 u97 u98 u99 u100 u101 u102 u103 u104 u105 u106 u107 u108 u109 u110 u111 u112 u113 u114 u115 u116 u117 u118 u119 u120 u121 u122 u123 u124 u125 u126 u127 u128 u129 u130 u131 u132 u133 u134 u135 u136 u137 u138 u139 u140 u141 u142 u143 u144 u145 u146 u147 u148 u149 u150 u151 u152 u153 u154 u155 u156 u157 u158 u159 u160 u161 u162 u163 u164 u165 u166 u167 u168 u169 u170 u171 u172 u173 u174 u175 u176 u177 u178 u179 u180 u181 u182 u183 u184 u185 u186 u187 u188 u189 u190 u191 u192 u193 u194 u195 u196 u197 u198 u199 u200 u201 u202 u203 u204 u205 u206 u207 u208 u209 u210 u211 u212 u213 u214 u215 u216 u217 u218 u219 u220 u221 u222 u223 u224 u225 u226 u227 u228 u229 u230 u231 u232 u233 u234 u235 u236 u237 u238 u239 u240 u241 u242 u243 u244 u245 u246 u247 u248 u249 u250 u251 u252 u253 u254 u255 u256 u257 u258 u259 u260 u261 u262 u263 u264 u265 u266 u267 u268 u269 u270 u271 u272 u273 u274 u275 u276 u277 u278 u279 u280 u281 u282 u283 u284 u285 u286 u287 u288 u289 u290 u291 u292 u293 u294 u295 u296 u297 u298 u299 u300 u301 u302 u303 u304 u305 u306 u307 u308 u309 u310 u311 u312 u313 : Value} {W0 w : World} {aK aB aR : Option Addr} {nK cK nB cB nR cR bK oK gB gR : Nat} (ks bs rs : List Int)
    (hW : Below W0.heap.size W0 w) (bnB : nB ≤ 4194304) (iK : Ints w aK nK bK oK ks) (iB : Ints w aB nB gB 0 bs) (iR : Ints w aR nR gR 0 rs)
    (hlaw : ∀ j, j < nB → bs.getD j 0 = if j < nR then rs.getD j 0 else if j < nK then ks.getD j 0 else -7) :
    Code.wp Try.prog (dropSeq 22 (Try.f5.body.getD .skip)) (bodyPost Try.prog Try.f5 fun e w' => e = .returned (.bool true) ∧ Below W0.heap.size W0 w')
      ⟨List.toArray (u0 :: u1 :: (.slice aK nK cK) :: u3 :: u4 :: u5 :: u6 :: u7 :: u8 :: u9 :: u10 :: u11 :: u12 :: u13 :: (.slice aB nB cB) :: u15 :: u16 :: u17 :: u18 :: (.slice aR nR cR) :: u20 :: u21 :: u22 :: u23 :: u24 :: u25 :: u26 :: u27 :: u28 :: u29 :: u30 :: u31 :: u32 :: u33 :: u34 :: u35 :: u36 :: u37 :: u38 :: u39 :: u40 :: u41 :: u42 :: u43 :: u44 :: u45 :: u46 :: u47 :: u48 :: u49 :: u50 :: u51 :: u52 :: u53 :: u54 :: u55 :: u56 :: u57 :: u58 :: u59 :: u60 :: u61 :: u62 :: u63 :: u64 :: u65 :: u66 :: u67 :: u68 :: u69 :: u70 :: u71 :: u72 :: u73 :: u74 :: u75 :: u76 :: u77 :: u78 :: u79 :: u80 :: u81 :: u82 :: u83 :: u84 :: u85 :: u86 :: u87 :: u88 :: u89 :: u90 :: u91 :: u92 :: u93 :: u94 :: u95 :: u96 :: u97 :: u98 :: u99 :: u100 :: u101 :: u102 :: u103 :: u104 :: u105 :: u106 :: u107 :: u108 :: u109 :: u110 :: u111 :: u112 :: u113 :: u114 :: u115 :: u116 :: u117 :: u118 :: u119 :: u120 :: u121 :: u122 :: u123 :: u124 :: u125 :: u126 :: u127 :: u128 :: u129 :: u130 :: u131 :: u132 :: u133 :: u134 :: u135 :: u136 :: u137 :: u138 :: u139 :: u140 :: u141 :: u142 :: u143 :: u144 :: u145 :: u146 :: u147 :: u148 :: u149 :: u150 :: u151 :: u152 :: u153 :: u154 :: u155 :: u156 :: u157 :: u158 :: u159 :: u160 :: u161 :: u162 :: u163 :: u164 :: u165 :: u166 :: u167 :: u168 :: u169 :: u170 :: u171 :: u172 :: u173 :: u174 :: u175 :: u176 :: u177 :: u178 :: u179 :: u180 :: u181 :: u182 :: u183 :: u184 :: u185 :: u186 :: u187 :: u188 :: u189 :: u190 :: u191 :: u192 :: u193 :: u194 :: u195 :: u196 :: u197 :: u198 :: u199 :: u200 :: u201 :: u202 :: u203 :: u204 :: u205 :: u206 :: u207 :: u208 :: u209 :: u210 :: u211 :: u212 :: u213 :: u214 :: u215 :: u216 :: u217 :: u218 :: u219 :: u220 :: u221 :: u222 :: u223 :: u224 :: u225 :: u226 :: u227 :: u228 :: u229 :: u230 :: u231 :: u232 :: u233 :: u234 :: u235 :: u236 :: u237 :: u238 :: u239 :: u240 :: u241 :: u242 :: u243 :: u244 :: u245 :: u246 :: u247 :: u248 :: u249 :: u250 :: u251 :: u252 :: u253 :: u254 :: u255 :: u256 :: u257 :: u258 :: u259 :: u260 :: u261 :: u262 :: u263 :: u264 :: u265 :: u266 :: u267 :: u268 :: u269 :: u270 :: u271 :: u272 :: u273 :: u274 :: u275 :: u276 :: u277 :: u278 :: u279 :: u280 :: u281 :: u282 :: u283 :: u284 :: u285 :: u286 :: u287 :: u288 :: u289 :: u290 :: u291 :: u292 :: u293 :: u294 :: u295 :: u296 :: u297 :: u298 :: u299 :: u300 :: u301 :: u302 :: u303 :: u304 :: u305 :: u306 :: u307 :: u308 :: u309 :: u310 :: u311 :: u312 :: u313 :: []), []⟩ w := by
  have haK := iK.ad
  have hK' := iK.cell
  have haB := iB.ad
  have hB := iB.cell0
  have haR := iR.ad
  have hR := iR.cell0
  clear iK iB iR
  conv => arg 2; whnf
  go_wp2_with fail
  go_loop [30] (fun i => ∃ k : Nat, k ≤ nB ∧ i = .int .i64 k) (fun i => nB - (intOf i).toNat)
  case atStart => exact ⟨0, Nat.zero_le _, rfl⟩
  case round =>
    obtain ⟨k, hk, rfl⟩ := hrel
    by_cases hlt : k < nB
    · have hx := hlaw k hlt
      have cB := hB k hlt
      obtain rfl := haB (by omega)
      clear haB hB hlaw
      by_cases h1 : k < nR
      · have cR := hR k h1
        obtain rfl := haR (by omega)
        rw [if_pos h1] at hx
        rw [hx] at cB
        generalize rs.getD k 0 = z at *
        clear haR hR hK' haK hx
        have hz : (z != z) = false := by simp
        go_wp2
        go_round
        case rel => exact ⟨k + 1, by omega, by go_num⟩
        case measure => simp [intOf]; omega
      · rw [if_neg h1] at hx
        by_cases h2 : k < nK
        · have cK := hK' k h2
          obtain rfl := haK (by omega)
          rw [if_pos h2] at hx
          rw [hx] at cB
          generalize ks.getD k 0 = z at *
          clear haR hR hK' haK hx
          have hz : (z != z) = false := by simp
          go_wp2
          go_round
          case rel => exact ⟨k + 1, by omega, by go_num⟩
          case measure => simp [intOf]; omega
        · rw [if_neg h2] at hx
          rw [hx] at cB
          clear haR hR hK' haK hx
          go_wp2
          go_round
          case rel => exact ⟨k + 1, by omega, by go_num⟩
          case measure => simp [intOf]; omega
    · go_wp2
      go_ret
      exact ⟨rfl, hW⟩

set_option maxRecDepth 100000 in
set_option maxHeartbeats 1600000 in
theorem f5_tail21_hit {u1 u3 u4 u5 u6 u7 u8 u10 u11 u12 u13 u15 u16 u17 u18 u21 u22 u23 u24 u25 u26 u28 u29 u30 u31 u32 u33 u34 u35 u36 u37 u38 u39 u40 u41 u42 u43 u44 u45 u46 u47 u48 u49 u50 u51 u52 u53 u54 u55 u56 u57 u58 u59 u60 u61 u62 u63 u64 u65 u66 u67 u68 u69 u70 u71 u72 u73 u74 u75 u76 u77 u78 u79 u80 u81 u82 u83 u84 u85 u86 u87 u88 u89 u90 u91 u92 u93 u94 u95 u96 u97 u98 u99 u100 u101 u102 u103 u104 u105 u106 u107 u108 u109 u110 u111 u112 u113 u114 u115 u116 u117 u118 u119 u120 u121 u122 u123 u124 u125 u126 u127 u128 u129 u130 u131 u132 u133 u134 u135 u136 u137 u138 u139 u140 u141 u142 u143 u144 u145 u146 u147 u148 u149 u150 u151 u152 u153 u154 u155 u156 u157 u158 u159 u160 u161 u162 u163 u164 u165 u166 u167 u168 u169 u170 u171 u172 u173 u174 u175 u176 u177 u178 u179 u180 u181 u182 u183 u184 u185 u186 u187 u188 u189 u190 u191 u192 u193 u194 u195 u196 u197 u198 u199 u200 u201 u202 u203 u204 u205 u206 u207 u208 u209 u210 u211 u212 u213 u214 u215 u216 u217 u218 u219 u220 u221 u222 u223 u224 u225 u226 u227 u228 u229 u230 u231 u232 u233 u234 u235 u236 u237 u238 u239 u240 u241 u242 u243 u244 u245 u246 u247 u248 u249 u250 u251 u252 u253 u254 u255 u256 u257 u258 u259 u260 u261 u262 u263 u264 u265 u266 u267 u268 u269 u270 u271 u272 u273 u274 u275 u276 u277 u278 u279 u280 u281 u282 u283 u284 u285 u286 u287 u288 u289 u290 u291 u292 u293 u294 u295 u296 u297 u298 u299 u300 u301 u302 u303 u304 u305 u306 u307 u308 u309 u310 u311 u312 u313 : Value} {W0 w : World} {aK aB aR aG aL : Option Addr} {nK cK nB cB nR cR bK oK gB gR nG cG gG nl cL bc : Nat} (ks bs rs : List Int) (c : Lab)
    (hW : Below W0.heap.size W0 w) (bnB : nB ≤ 4194304) (iK : Ints w aK nK bK oK ks) (iB : Ints w aB nB gB 0 bs) (iR : Ints w aR nR gR 0 rs)
    (hlaw : ∀ j, j < nB → bs.getD j 0 = if j < nR then rs.getD j 0 else if j < nK then ks.getD j 0 else -7) :
    Code.wp Try.prog (dropSeq 21 (Try.f5.body.getD .skip)) (bodyPost Try.prog Try.f5 fun e w' => e = .returned (.bool true) ∧ Below W0.heap.size W0 w')
      ⟨List.toArray ((.slice aL nl cL) :: u1 :: (.slice aK nK cK) :: u3 :: u4 :: u5 :: u6 :: u7 :: u8 :: (.pointer (some ⟨bc, 0, none⟩)) :: u10 :: u11 :: u12 :: u13 :: (.slice aB nB cB) :: u15 :: u16 :: u17 :: u18 :: (.slice aR nR cR) :: (.bool true) :: u21 :: u22 :: u23 :: u24 :: u25 :: u26 :: (.slice aG nG cG) :: u28 :: u29 :: u30 :: u31 :: u32 :: u33 :: u34 :: u35 :: u36 :: u37 :: u38 :: u39 :: u40 :: u41 :: u42 :: u43 :: u44 :: u45 :: u46 :: u47 :: u48 :: u49 :: u50 :: u51 :: u52 :: u53 :: u54 :: u55 :: u56 :: u57 :: u58 :: u59 :: u60 :: u61 :: u62 :: u63 :: u64 :: u65 :: u66 :: u67 :: u68 :: u69 :: u70 :: u71 :: u72 :: u73 :: u74 :: u75 :: u76 :: u77 :: u78 :: u79 :: u80 :: u81 :: u82 :: u83 :: u84 :: u85 :: u86 :: u87 :: u88 :: u89 :: u90 :: u91 :: u92 :: u93 :: u94 :: u95 :: u96 :: u97 :: u98 :: u99 :: u100 :: u101 :: u102 :: u103 :: u104 :: u105 :: u106 :: u107 :: u108 :: u109 :: u110 :: u111 :: u112 :: u113 :: u114 :: u115 :: u116 :: u117 :: u118 :: u119 :: u120 :: u121 :: u122 :: u123 :: u124 :: u125 :: u126 :: u127 :: u128 :: u129 :: u130 :: u131 :: u132 :: u133 :: u134 :: u135 :: u136 :: u137 :: u138 :: u139 :: u140 :: u141 :: u142 :: u143 :: u144 :: u145 :: u146 :: u147 :: u148 :: u149 :: u150 :: u151 :: u152 :: u153 :: u154 :: u155 :: u156 :: u157 :: u158 :: u159 :: u160 :: u161 :: u162 :: u163 :: u164 :: u165 :: u166 :: u167 :: u168 :: u169 :: u170 :: u171 :: u172 :: u173 :: u174 :: u175 :: u176 :: u177 :: u178 :: u179 :: u180 :: u181 :: u182 :: u183 :: u184 :: u185 :: u186 :: u187 :: u188 :: u189 :: u190 :: u191 :: u192 :: u193 :: u194 :: u195 :: u196 :: u197 :: u198 :: u199 :: u200 :: u201 :: u202 :: u203 :: u204 :: u205 :: u206 :: u207 :: u208 :: u209 :: u210 :: u211 :: u212 :: u213 :: u214 :: u215 :: u216 :: u217 :: u218 :: u219 :: u220 :: u221 :: u222 :: u223 :: u224 :: u225 :: u226 :: u227 :: u228 :: u229 :: u230 :: u231 :: u232 :: u233 :: u234 :: u235 :: u236 :: u237 :: u238 :: u239 :: u240 :: u241 :: u242 :: u243 :: u244 :: u245 :: u246 :: u247 :: u248 :: u249 :: u250 :: u251 :: u252 :: u253 :: u254 :: u255 :: u256 :: u257 :: u258 :: u259 :: u260 :: u261 :: u262 :: u263 :: u264 :: u265 :: u266 :: u267 :: u268 :: u269 :: u270 :: u271 :: u272 :: u273 :: u274 :: u275 :: u276 :: u277 :: u278 :: u279 :: u280 :: u281 :: u282 :: u283 :: u284 :: u285 :: u286 :: u287 :: u288 :: u289 :: u290 :: u291 :: u292 :: u293 :: u294 :: u295 :: u296 :: u297 :: u298 :: u299 :: u300 :: u301 :: u302 :: u303 :: u304 :: u305 :: u306 :: u307 :: u308 :: u309 :: u310 :: u311 :: u312 :: u313 :: []), []⟩ w := by
  go_step
  refine wp_drop 21 (Try.f5.body.getD .skip) (by kernel_rfl) (fun K hK => ?_)
  conv => arg 2; whnf
  go_wp2_with fail
  go_quiet (fail)
  go_wp2
  have hcut : Below w.heap.size w (w.drewN nq) := below_drewN (Below.refl _ _) _
  exact f5_tail22 ks bs rs (hW.trans (hcut.mono hW.size)) bnB (iK.below hcut) (iB.below hcut) (iR.below hcut) hlaw

set_option maxRecDepth 100000 in
set_option maxHeartbeats 1600000 in
theorem f5_tail21_miss {u1 u3 u4 u5 u6 u7 u8 u10 u11 u12 u13 u15 u16 u17 u18 u21 u22 u23 u24 u25 u26 u28 u29 u30 u31 u32 u33 u34 u35 u36 u37 u38 u39 u40 u41 u42 u43 u44 u45 u46 u47 u48 u49 u50 u51 u52 u53 u54 u55 u56 u57 u58 u59 u60 u61 u62 u63 u64 u65 u66 u67 u68 u69 u70 u71 u72 u73 u74 u75 u76 u77 u78 u79 u80 u81 u82 u83 u84 u85 u86 u87 u88 u89 u90 u91 u92 u93 u94 u95 u96 u97 u98 u99 u100 u101 u102 u103 u104 u105 u106 u107 u108 u109 u110 u111 u112 u113 u114 u115 u116 u117 u118 u119 u120 u121 u122 u123 u124 u125 u126 u127 u128 u129 u130 u131 u132 u133 u134 u135 u136 u137 u138 u139 u140 u141 u142 u143 u144 u145 u146 u147 u148 u149 u150 u151 u152 u153 u154 u155 u156 u157 u158 u159 u160 u161 u162 u163 u164 u165 u166 u167 u168 u169 u170 u171 u172 u173 u174 u175 u176 u177 u178 u179 u180 u181 u182 u183 u184 u185 u186 u187 u188 u189 u190 u191 u192 u193 u194 u195 u196 u197 u198 u199 u200 u201 u202 u203 u204 u205 u206 u207 u208 u209 u210 u211 u212 u213 u214 u215 u216 u217 u218 u219 u220 u221 u222 u223 u224 u225 u226 u227 u228 u229 u230 u231 u232 u233 u234 u235 u236 u237 u238 u239 u240 u241 u242 u243 u244 u245 u246 u247 u248 u249 u250 u251 u252 u253 u254 u255 u256 u257 u258 u259 u260 u261 u262 u263 u264 u265 u266 u267 u268 u269 u270 u271 u272 u273 u274 u275 u276 u277 u278 u279 u280 u281 u282 u283 u284 u285 u286 u287 u288 u289 u290 u291 u292 u293 u294 u295 u296 u297 u298 u299 u300 u301 u302 u303 u304 u305 u306 u307 u308 u309 u310 u311 u312 u313 : Value} {W0 w : World} {aK aB aR aG aL : Option Addr} {nK cK nB cB nR cR bK oK gB gR nG cG gG nl cL bc : Nat} (ks bs rs : List Int) (c : Lab)
    (hW : Below W0.heap.size W0 w) (bnB : nB ≤ 4194304) (iK : Ints w aK nK bK oK ks) (iB : Ints w aB nB gB 0 bs) (iR : Ints w aR nR gR 0 rs)
    (hlaw : ∀ j, j < nB → bs.getD j 0 = if j < nR then rs.getD j 0 else if j < nK then ks.getD j 0 else -7)
    (bnl : nl ≤ 2097152) (hG : aG = some ⟨gG, 0, none⟩) (hnG : nG = nl + 1) (lc : LabAt w gG (nl * 6) c) (cc : LabAt w bc 0 c) :
    Code.wp Try.prog (dropSeq 21 (Try.f5.body.getD .skip)) (bodyPost Try.prog Try.f5 fun e w' => e = .returned (.bool true) ∧ Below W0.heap.size W0 w')
      ⟨List.toArray ((.slice aL nl cL) :: u1 :: (.slice aK nK cK) :: u3 :: u4 :: u5 :: u6 :: u7 :: u8 :: (.pointer (some ⟨bc, 0, none⟩)) :: u10 :: u11 :: u12 :: u13 :: (.slice aB nB cB) :: u15 :: u16 :: u17 :: u18 :: (.slice aR nR cR) :: (.bool false) :: u21 :: u22 :: u23 :: u24 :: u25 :: u26 :: (.slice aG nG cG) :: u28 :: u29 :: u30 :: u31 :: u32 :: u33 :: u34 :: u35 :: u36 :: u37 :: u38 :: u39 :: u40 :: u41 :: u42 :: u43 :: u44 :: u45 :: u46 :: u47 :: u48 :: u49 :: u50 :: u51 :: u52 :: u53 :: u54 :: u55 :: u56 :: u57 :: u58 :: u59 :: u60 :: u61 :: u62 :: u63 :: u64 :: u65 :: u66 :: u67 :: u68 :: u69 :: u70 :: u71 :: u72 :: u73 :: u74 :: u75 :: u76 :: u77 :: u78 :: u79 :: u80 :: u81 :: u82 :: u83 :: u84 :: u85 :: u86 :: u87 :: u88 :: u89 :: u90 :: u91 :: u92 :: u93 :: u94 :: u95 :: u96 :: u97 :: u98 :: u99 :: u100 :: u101 :: u102 :: u103 :: u104 :: u105 :: u106 :: u107 :: u108 :: u109 :: u110 :: u111 :: u112 :: u113 :: u114 :: u115 :: u116 :: u117 :: u118 :: u119 :: u120 :: u121 :: u122 :: u123 :: u124 :: u125 :: u126 :: u127 :: u128 :: u129 :: u130 :: u131 :: u132 :: u133 :: u134 :: u135 :: u136 :: u137 :: u138 :: u139 :: u140 :: u141 :: u142 :: u143 :: u144 :: u145 :: u146 :: u147 :: u148 :: u149 :: u150 :: u151 :: u152 :: u153 :: u154 :: u155 :: u156 :: u157 :: u158 :: u159 :: u160 :: u161 :: u162 :: u163 :: u164 :: u165 :: u166 :: u167 :: u168 :: u169 :: u170 :: u171 :: u172 :: u173 :: u174 :: u175 :: u176 :: u177 :: u178 :: u179 :: u180 :: u181 :: u182 :: u183 :: u184 :: u185 :: u186 :: u187 :: u188 :: u189 :: u190 :: u191 :: u192 :: u193 :: u194 :: u195 :: u196 :: u197 :: u198 :: u199 :: u200 :: u201 :: u202 :: u203 :: u204 :: u205 :: u206 :: u207 :: u208 :: u209 :: u210 :: u211 :: u212 :: u213 :: u214 :: u215 :: u216 :: u217 :: u218 :: u219 :: u220 :: u221 :: u222 :: u223 :: u224 :: u225 :: u226 :: u227 :: u228 :: u229 :: u230 :: u231 :: u232 :: u233 :: u234 :: u235 :: u236 :: u237 :: u238 :: u239 :: u240 :: u241 :: u242 :: u243 :: u244 :: u245 :: u246 :: u247 :: u248 :: u249 :: u250 :: u251 :: u252 :: u253 :: u254 :: u255 :: u256 :: u257 :: u258 :: u259 :: u260 :: u261 :: u262 :: u263 :: u264 :: u265 :: u266 :: u267 :: u268 :: u269 :: u270 :: u271 :: u272 :: u273 :: u274 :: u275 :: u276 :: u277 :: u278 :: u279 :: u280 :: u281 :: u282 :: u283 :: u284 :: u285 :: u286 :: u287 :: u288 :: u289 :: u290 :: u291 :: u292 :: u293 :: u294 :: u295 :: u296 :: u297 :: u298 :: u299 :: u300 :: u301 :: u302 :: u303 :: u304 :: u305 :: u306 :: u307 :: u308 :: u309 :: u310 :: u311 :: u312 :: u313 :: []), []⟩ w := by
  subst hG
  subst hnG
  have e0 : ∀ d os, (grow (redrawn w d) os).cell? ⟨gG, nl * 6, none⟩ = some (.float .f64 c.wt) := fun d os => (lc.regrown d os).c0
  have e1 : ∀ d os, (grow (redrawn w d) os).cell? ⟨gG, nl * 6 + 1, none⟩ = some (.float .f64 c.lo) := fun d os => (lc.regrown d os).c1
  have e2 : ∀ d os, (grow (redrawn w d) os).cell? ⟨gG, nl * 6 + 2, none⟩ = some (.float .f64 c.de) := fun d os => (lc.regrown d os).c2
  have e3 : ∀ d os, (grow (redrawn w d) os).cell? ⟨gG, nl * 6 + 3, none⟩ = some (.int .i64 c.ho) := fun d os => (lc.regrown d os).c3
  have e4 : ∀ d os, (grow (redrawn w d) os).cell? ⟨gG, nl * 6 + 4, none⟩ = some (.int .i64 c.st) := fun d os => (lc.regrown d os).c4
  have e5 : ∀ d os, (grow (redrawn w d) os).cell? ⟨gG, nl * 6 + 5, none⟩ = some (.int .i64 c.pr) := fun d os => (lc.regrown d os).c5
  have b0 : ∀ d os, (grow (redrawn w d) os).cell? ⟨bc, 0, none⟩ = some (.float .f64 c.wt) := fun d os => (cc.regrown d os).c0
  have b1 : ∀ d os, (grow (redrawn w d) os).cell? ⟨bc, 1, none⟩ = some (.float .f64 c.lo) := fun d os => (cc.regrown d os).c1
  have b2 : ∀ d os, (grow (redrawn w d) os).cell? ⟨bc, 2, none⟩ = some (.float .f64 c.de) := fun d os => (cc.regrown d os).c2
  have b3 : ∀ d os, (grow (redrawn w d) os).cell? ⟨bc, 3, none⟩ = some (.int .i64 c.ho) := fun d os => (cc.regrown d os).c3
  have b4 : ∀ d os, (grow (redrawn w d) os).cell? ⟨bc, 4, none⟩ = some (.int .i64 c.st) := fun d os => (cc.regrown d os).c4
  have b5 : ∀ d os, (grow (redrawn w d) os).cell? ⟨bc, 5, none⟩ = some (.int .i64 c.pr) := fun d os => (cc.regrown d os).c5
  clear lc cc
  go_step
  refine wp_drop 21 (Try.f5.body.getD .skip) (by kernel_rfl) (fun K hK => ?_)
  conv => arg 2; whnf
  go_wp2_with fail
  refine wp_region_quiet_below (by kernel_rfl) (by kernel_rfl) ?_
  repeat (first | go_big_quiet_step ((first | (go_at_call 25; exact Calls.regrown_of (fromLabel_any _ _ _ _ _ _ _)) | (go_at_call 24; exact Calls.regrown_of (sameLabel_refl _ _ _ _ _ _ _)))) | quiet_step ((first | (go_at_call 25; exact Calls.regrown_of (fromLabel_any _ _ _ _ _ _ _)) | (go_at_call 24; exact Calls.regrown_of (sameLabel_refl _ _ _ _ _ _ _)))))
  refine wpQuiet_nil ?_
  intro _ hw'
  obtain ⟨⟨dq, osq⟩, hw''⟩ := hw'
  subst hw''
  go_wp2
  have hcut := below_regrown w dq osq
  exact f5_tail22 ks bs rs (hW.trans (hcut.mono hW.size)) bnB (iK.below hcut) (iB.below hcut) (iR.below hcut) hlaw
end Go.Proofs.Qxb6601457a
