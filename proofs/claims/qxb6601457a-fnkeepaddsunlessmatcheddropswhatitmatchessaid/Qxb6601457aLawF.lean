import Derived.Test.Qxb6601457aLawE
import Derived.Test.Qxb6601457aSeq
import Derived.Test.Qxb6601457aMake
import Derived.BigQuiet
namespace Go.Proofs.Qxb6601457a
set_option linter.unusedSimpArgs false
set_option linter.unusedVariables false
open Go.RowKit Go.Sort
attribute [local go_sem] run_store_float

set_option maxRecDepth 100000 in
set_option maxHeartbeats 1600000 in
theorem f5_tail6_nil {u4 u5 u6 u7 u8 u10 u11 u13 u14 u15 u16 u17 u18 u19 u20 u21 u22 u23 u24 u25 u26 u27 u28 u29 u30 u31 u32 u33 u34 u35 u36 u37 u38 u39 u40 u41 u42 u43 u44 u45 u46 u47 u48 u49 u50 u51 u52 u53 u54 u55 u56 u57 u58 u59 u60 u61 u62 u63 u64 u65 u66 u67 u68 u69 u70 u71 u72 u73 u74 u75 u76 u77 u78 u79 u80 u81 u82 u83 u84 u85 u86 u87 u88 u89 u90 u91 u92 u93 u94 u95 u96 u97 u98 u99 u100 u101 u102 u103 u104 u105 u106 u107 u108 u109 u110 u111 u112 u113 u114 u115 u116 u117 u118 u119 u120 u121 u122 u123 u124 u125 u126 u127 u128 u129 u130 u131 u132 u133 u134 u135 u136 u137 u138 u139 u140 u141 u142 u143 u144 u145 u146 u147 u148 u149 u150 u151 u152 u153 u154 u155 u156 u157 u158 u159 u160 u161 u162 u163 u164 u165 u166 u167 u168 u169 u170 u171 u172 u173 u174 u175 u176 u177 u178 u179 u180 u181 u182 u183 u184 u185 u186 u187 u188 u189 u190 u191 u192 u193 u194 u195 u196 u197 u198 u199 u200 u201 u202 u203 u204 u205 u206 u207 u208 u209 u210 u211 u212 u213 u214 u215 u216 u217 u218 u219 u220 u221 u222 u223 u224 u225 u226 u227 u228 u229 u230 u231 u232 u233 u234 u235 u236 u237 u238 u239 u240 u241 u242 u243 u244 u245 u246 u247 u248 u249 u250 u251 u252 u253 u254 u255 u256 u257 u258 u259 u260 u261 u262 u263 u264 u265 u266 u267 u268 u269 u270 u271 u272 u273 u274 u275 u276 u277 u278 u279 u280 u281 u282 u283 u284 u285 u286 u287 u288 u289 u290 u291 u292 u293 u294 u295 u296 u297 u298 u299 u300 u301 u302 u303 u304 u305 u306 u307 u308 u309 u310 u311 u312 u313 : Value} {st : Int} {W0 w : World} {aL : Option Addr} {cK bK oK nl cL bL oL bc gl capl : Nat} (ks : List Int) (ls : List Lab) (d c : Lab) (csl : List Value)
    (hW : Below W0.heap.size W0 w) (bnl : nl ≤ 1048576) (bnK : 0 ≤ 1048576) (iK : Ints W0 (none) 0 bK oK ks) (iL : Labs W0 aL nl bL oL ls d) (hbc : w.heap[bc]? = some (.cells #[.float .f64 c.wt, .float .f64 c.lo, .float .f64 c.de, .int .i64 c.ho, .int .i64 c.st, .int .i64 c.pr] 41 (0, 0))) (hgl0 : W0.heap.size ≤ gl)
    (hl : Own w 45 6 (.slice (some ⟨gl, 0, none⟩) nl capl) nl capl csl) (hfl : csl.take (nl * 6) = flat ls) (hln : ls.length = nl)
    (kn : List Nat) (hkn : kn.length = 0) (hkk : ∀ j, j < 0 → ks.getD j 0 = ((kn.getD j 0 : Nat) : Int)) (hin : ∀ j, j < 0 → kn.getD j 0 < nl)  :
    Code.wp Try.prog (dropSeq 6 (Try.f5.body.getD .skip)) (bodyPost Try.prog Try.f5 fun e w' => e = .returned (.bool true) ∧ Below W0.heap.size W0 w')
      ⟨List.toArray ((.slice aL nl cL) :: (.int .i64 st) :: (.slice none 0 cK) :: (.int .i64 0) :: u4 :: u5 :: u6 :: u7 :: u8 :: (.pointer (some ⟨bc, 0, none⟩)) :: u10 :: u11 :: (.slice (some ⟨gl, 0, none⟩) nl capl) :: u13 :: u14 :: u15 :: u16 :: u17 :: u18 :: u19 :: u20 :: u21 :: u22 :: u23 :: u24 :: u25 :: u26 :: u27 :: u28 :: u29 :: u30 :: u31 :: u32 :: u33 :: u34 :: u35 :: u36 :: u37 :: u38 :: u39 :: u40 :: u41 :: u42 :: u43 :: u44 :: u45 :: u46 :: u47 :: u48 :: u49 :: u50 :: u51 :: u52 :: u53 :: u54 :: u55 :: u56 :: u57 :: u58 :: u59 :: u60 :: u61 :: u62 :: u63 :: u64 :: u65 :: u66 :: u67 :: u68 :: u69 :: u70 :: u71 :: u72 :: u73 :: u74 :: u75 :: u76 :: u77 :: u78 :: u79 :: u80 :: u81 :: u82 :: u83 :: u84 :: u85 :: u86 :: u87 :: u88 :: u89 :: u90 :: u91 :: u92 :: u93 :: u94 :: u95 :: u96 :: u97 :: u98 :: u99 :: u100 :: u101 :: u102 :: u103 :: u104 :: u105 :: u106 :: u107 :: u108 :: u109 :: u110 :: u111 :: u112 :: u113 :: u114 :: u115 :: u116 :: u117 :: u118 :: u119 :: u120 :: u121 :: u122 :: u123 :: u124 :: u125 :: u126 :: u127 :: u128 :: u129 :: u130 :: u131 :: u132 :: u133 :: u134 :: u135 :: u136 :: u137 :: u138 :: u139 :: u140 :: u141 :: u142 :: u143 :: u144 :: u145 :: u146 :: u147 :: u148 :: u149 :: u150 :: u151 :: u152 :: u153 :: u154 :: u155 :: u156 :: u157 :: u158 :: u159 :: u160 :: u161 :: u162 :: u163 :: u164 :: u165 :: u166 :: u167 :: u168 :: u169 :: u170 :: u171 :: u172 :: u173 :: u174 :: u175 :: u176 :: u177 :: u178 :: u179 :: u180 :: u181 :: u182 :: u183 :: u184 :: u185 :: u186 :: u187 :: u188 :: u189 :: u190 :: u191 :: u192 :: u193 :: u194 :: u195 :: u196 :: u197 :: u198 :: u199 :: u200 :: u201 :: u202 :: u203 :: u204 :: u205 :: u206 :: u207 :: u208 :: u209 :: u210 :: u211 :: u212 :: u213 :: u214 :: u215 :: u216 :: u217 :: u218 :: u219 :: u220 :: u221 :: u222 :: u223 :: u224 :: u225 :: u226 :: u227 :: u228 :: u229 :: u230 :: u231 :: u232 :: u233 :: u234 :: u235 :: u236 :: u237 :: u238 :: u239 :: u240 :: u241 :: u242 :: u243 :: u244 :: u245 :: u246 :: u247 :: u248 :: u249 :: u250 :: u251 :: u252 :: u253 :: u254 :: u255 :: u256 :: u257 :: u258 :: u259 :: u260 :: u261 :: u262 :: u263 :: u264 :: u265 :: u266 :: u267 :: u268 :: u269 :: u270 :: u271 :: u272 :: u273 :: u274 :: u275 :: u276 :: u277 :: u278 :: u279 :: u280 :: u281 :: u282 :: u283 :: u284 :: u285 :: u286 :: u287 :: u288 :: u289 :: u290 :: u291 :: u292 :: u293 :: u294 :: u295 :: u296 :: u297 :: u298 :: u299 :: u300 :: u301 :: u302 :: u303 :: u304 :: u305 :: u306 :: u307 :: u308 :: u309 :: u310 :: u311 :: u312 :: u313 :: []), []⟩ w := by
  have HK : Hid _ := hkk
  have HKN : Hid _ := hkn
  have HFL : Hid _ := hfl
  have HLN : Hid _ := hln
  clear hkk hkn hfl hln
  go_step
  refine wp_drop 6 (Try.f5.body.getD .skip) (by kernel_rfl) (fun K hK => ?_)
  conv => arg 2; whnf
  go_wp2
  refine wp_drop 7 (Try.f5.body.getD .skip) (by kernel_rfl) (fun K hK => ?_)
  conv => arg 2; whnf
  go_wp2
  exact f5_tail8_nil_miss (nK := 0) ks ls d c csl hW bnl bnK iK iL hbc hgl0 hl HFL.out HLN.out kn HKN.out HK.out hin rfl

set_option maxRecDepth 100000 in
set_option maxHeartbeats 3200000 in
theorem f5_tail6_some {u4 u5 u6 u7 u8 u10 u11 u13 u14 u15 u16 u17 u18 u19 u20 u21 u22 u23 u24 u25 u26 u27 u28 u29 u30 u31 u32 u33 u34 u35 u36 u37 u38 u39 u40 u41 u42 u43 u44 u45 u46 u47 u48 u49 u50 u51 u52 u53 u54 u55 u56 u57 u58 u59 u60 u61 u62 u63 u64 u65 u66 u67 u68 u69 u70 u71 u72 u73 u74 u75 u76 u77 u78 u79 u80 u81 u82 u83 u84 u85 u86 u87 u88 u89 u90 u91 u92 u93 u94 u95 u96 u97 u98 u99 u100 u101 u102 u103 u104 u105 u106 u107 u108 u109 u110 u111 u112 u113 u114 u115 u116 u117 u118 u119 u120 u121 u122 u123 u124 u125 u126 u127 u128 u129 u130 u131 u132 u133 u134 u135 u136 u137 u138 u139 u140 u141 u142 u143 u144 u145 u146 u147 u148 u149 u150 u151 u152 u153 u154 u155 u156 u157 u158 u159 u160 u161 u162 u163 u164 u165 u166 u167 u168 u169 u170 u171 u172 u173 u174 u175 u176 u177 u178 u179 u180 u181 u182 u183 u184 u185 u186 u187 u188 u189 u190 u191 u192 u193 u194 u195 u196 u197 u198 u199 u200 u201 u202 u203 u204 u205 u206 u207 u208 u209 u210 u211 u212 u213 u214 u215 u216 u217 u218 u219 u220 u221 u222 u223 u224 u225 u226 u227 u228 u229 u230 u231 u232 u233 u234 u235 u236 u237 u238 u239 u240 u241 u242 u243 u244 u245 u246 u247 u248 u249 u250 u251 u252 u253 u254 u255 u256 u257 u258 u259 u260 u261 u262 u263 u264 u265 u266 u267 u268 u269 u270 u271 u272 u273 u274 u275 u276 u277 u278 u279 u280 u281 u282 u283 u284 u285 u286 u287 u288 u289 u290 u291 u292 u293 u294 u295 u296 u297 u298 u299 u300 u301 u302 u303 u304 u305 u306 u307 u308 u309 u310 u311 u312 u313 : Value} {st : Int} {W0 w : World} {ad : Addr} {aL : Option Addr} {nK cK bK oK nl cL bL oL bc gl capl sp : Nat} (ks : List Int) (ls : List Lab) (d c : Lab) (csl : List Value)
    (hW : Below W0.heap.size W0 w) (bnl : nl ≤ 1048576) (bnK : nK ≤ 1048576) (iK : Ints W0 (some ad) nK bK oK ks) (iL : Labs W0 aL nl bL oL ls d) (hbc : w.heap[bc]? = some (.cells #[.float .f64 c.wt, .float .f64 c.lo, .float .f64 c.de, .int .i64 c.ho, .int .i64 c.st, .int .i64 c.pr] 41 (0, 0))) (hgl0 : W0.heap.size ≤ gl)
    (hl : Own w 45 6 (.slice (some ⟨gl, 0, none⟩) nl capl) nl capl csl) (hfl : csl.take (nl * 6) = flat ls) (hln : ls.length = nl)
    (kn : List Nat) (hkn : kn.length = nK) (hkk : ∀ j, j < nK → ks.getD j 0 = ((kn.getD j 0 : Nat) : Int)) (hin : ∀ j, j < nK → kn.getD j 0 < nl) (bsp : sp ≤ 1048576) :
    Code.wp Try.prog (dropSeq 6 (Try.f5.body.getD .skip)) (bodyPost Try.prog Try.f5 fun e w' => e = .returned (.bool true) ∧ Below W0.heap.size W0 w')
      ⟨List.toArray ((.slice aL nl cL) :: (.int .i64 st) :: (.slice (some ad) nK cK) :: (.int .i64 (sp : Int)) :: u4 :: u5 :: u6 :: u7 :: u8 :: (.pointer (some ⟨bc, 0, none⟩)) :: u10 :: u11 :: (.slice (some ⟨gl, 0, none⟩) nl capl) :: u13 :: u14 :: u15 :: u16 :: u17 :: u18 :: u19 :: u20 :: u21 :: u22 :: u23 :: u24 :: u25 :: u26 :: u27 :: u28 :: u29 :: u30 :: u31 :: u32 :: u33 :: u34 :: u35 :: u36 :: u37 :: u38 :: u39 :: u40 :: u41 :: u42 :: u43 :: u44 :: u45 :: u46 :: u47 :: u48 :: u49 :: u50 :: u51 :: u52 :: u53 :: u54 :: u55 :: u56 :: u57 :: u58 :: u59 :: u60 :: u61 :: u62 :: u63 :: u64 :: u65 :: u66 :: u67 :: u68 :: u69 :: u70 :: u71 :: u72 :: u73 :: u74 :: u75 :: u76 :: u77 :: u78 :: u79 :: u80 :: u81 :: u82 :: u83 :: u84 :: u85 :: u86 :: u87 :: u88 :: u89 :: u90 :: u91 :: u92 :: u93 :: u94 :: u95 :: u96 :: u97 :: u98 :: u99 :: u100 :: u101 :: u102 :: u103 :: u104 :: u105 :: u106 :: u107 :: u108 :: u109 :: u110 :: u111 :: u112 :: u113 :: u114 :: u115 :: u116 :: u117 :: u118 :: u119 :: u120 :: u121 :: u122 :: u123 :: u124 :: u125 :: u126 :: u127 :: u128 :: u129 :: u130 :: u131 :: u132 :: u133 :: u134 :: u135 :: u136 :: u137 :: u138 :: u139 :: u140 :: u141 :: u142 :: u143 :: u144 :: u145 :: u146 :: u147 :: u148 :: u149 :: u150 :: u151 :: u152 :: u153 :: u154 :: u155 :: u156 :: u157 :: u158 :: u159 :: u160 :: u161 :: u162 :: u163 :: u164 :: u165 :: u166 :: u167 :: u168 :: u169 :: u170 :: u171 :: u172 :: u173 :: u174 :: u175 :: u176 :: u177 :: u178 :: u179 :: u180 :: u181 :: u182 :: u183 :: u184 :: u185 :: u186 :: u187 :: u188 :: u189 :: u190 :: u191 :: u192 :: u193 :: u194 :: u195 :: u196 :: u197 :: u198 :: u199 :: u200 :: u201 :: u202 :: u203 :: u204 :: u205 :: u206 :: u207 :: u208 :: u209 :: u210 :: u211 :: u212 :: u213 :: u214 :: u215 :: u216 :: u217 :: u218 :: u219 :: u220 :: u221 :: u222 :: u223 :: u224 :: u225 :: u226 :: u227 :: u228 :: u229 :: u230 :: u231 :: u232 :: u233 :: u234 :: u235 :: u236 :: u237 :: u238 :: u239 :: u240 :: u241 :: u242 :: u243 :: u244 :: u245 :: u246 :: u247 :: u248 :: u249 :: u250 :: u251 :: u252 :: u253 :: u254 :: u255 :: u256 :: u257 :: u258 :: u259 :: u260 :: u261 :: u262 :: u263 :: u264 :: u265 :: u266 :: u267 :: u268 :: u269 :: u270 :: u271 :: u272 :: u273 :: u274 :: u275 :: u276 :: u277 :: u278 :: u279 :: u280 :: u281 :: u282 :: u283 :: u284 :: u285 :: u286 :: u287 :: u288 :: u289 :: u290 :: u291 :: u292 :: u293 :: u294 :: u295 :: u296 :: u297 :: u298 :: u299 :: u300 :: u301 :: u302 :: u303 :: u304 :: u305 :: u306 :: u307 :: u308 :: u309 :: u310 :: u311 :: u312 :: u313 :: []), []⟩ w := by
  have HK : Hid _ := hkk
  have HKN : Hid _ := hkn
  have HFL : Hid _ := hfl
  have HLN : Hid _ := hln
  clear hkk hkn hfl hln
  obtain ⟨i3, hi3, hy0, hy1, hy2⟩ := info_parts Try.info3
  have hbl : (backInts kn sp).length = (nK + sp) := by rw [backInts_length, HKN.out]
  have HBL : Hid _ := hbl
  clear hbl
  go_step
  refine wp_drop 6 (Try.f5.body.getD .skip) (by kernel_rfl) (fun K hK => ?_)
  conv => arg 2; whnf
  go_wp2
  refine wp_drop 7 (Try.f5.body.getD .skip) (by kernel_rfl) (fun K hK => ?_)
  conv => arg 2; whnf
  go_wp2_with (at_make; go_must (refine wpList_make_exact _ rfl _ _ 39 rfl 3 i3 (.int .i64 0) 1 Try.underlying39 hi3 hy0 hy1 .i64 .i64 _ _ (nK + sp) (nK + sp) rfl rfl (by omega) (by omega) (Nat.le_refl _) (by rw [hy2]; omega) (by unfold maxLen; omega) ?_))
  have hmade := Own.made w 3 1 (nK + sp) (nK + sp) (Value.int .i64 0).cells (Nat.le_refl _) (by unfold maxLen; omega)
  rw [madeCells_ints] at hmade
  go_loopw [15] (fun i wr => ∃ k : Nat, k ≤ (nK + sp) ∧ i = .int .i64 k ∧ Own wr 3 1 (.slice (some ⟨w.heap.size, 0, none⟩) (nK + sp) (nK + sp)) (nK + sp) (nK + sp) (((backInts kn sp).map (Value.int .i64)).take k ++ List.replicate ((nK + sp) - k) (Value.int .i64 0)) ∧ Below w.heap.size w wr) (fun i _ => (nK + sp) - (intOf i).toNat)
  case atStart => exact ⟨0, Nat.zero_le _, rfl, by simpa [Value.cells] using hmade, (Below.refl _ _).alloc (Nat.le_refl _) _⟩
  case round =>
    clear hmade
    obtain ⟨k, hk, rfl, hown, hbel⟩ := hrel
    by_cases hlt : k < (nK + sp)
    · have hwr := hW.trans (hbel.mono hW.size)
      have hat := backInts_at kn sp k (by rw [HKN.out]; omega)
      have hstep := fun x hx => fill_step ((backInts kn sp).map (Value.int .i64)) (Value.int .i64 0) (nK + sp) k (by rw [List.length_map, HBL.out]) hlt x hx
      have hmx := map_int_at (backInts kn sp) k (by rw [HBL.out]; exact hlt)
      have hst := hown.stored k
      have cB : wr.cell? ⟨w.heap.size, k, none⟩ = some (.int .i64 0) := by
        rw [hown.cell k, List.getElem?_append_right (by rw [List.length_take, List.length_map, HBL.out]; omega)]
        rw [List.length_take, List.length_map, HBL.out, List.getElem?_replicate, if_pos (by omega)]
      have fB := hown.frozen k
      have hlt' : (k : Int) < (((nK + sp) : Nat) : Int) := by omega
      by_cases h1 : k < nK
      · rw [HKN.out, if_pos h1, ← HK.out k h1] at hat
        obtain h := iK.ad (by omega)
        obtain rfl : ad = ⟨bK, oK, none⟩ := by simpa using h
        have cK := (iK.below hwr).cell k h1
        clear h
        have hfin : Own (wr.setCell ⟨w.heap.size, k, none⟩ (.int .i64 (ks.getD k 0))) 3 1 (.slice (some ⟨w.heap.size, 0, none⟩) (nK + sp) (nK + sp)) (nK + sp) (nK + sp) (((backInts kn sp).map (Value.int .i64)).take (k + 1) ++ List.replicate ((nK + sp) - (k + 1)) (Value.int .i64 0)) := by
          rw [← hstep _ (hat ▸ hmx)]; exact hst _
        have hbfin : Below w.heap.size w (wr.setCell ⟨w.heap.size, k, none⟩ (.int .i64 (ks.getD k 0))) := hbel.setCell (Nat.le_refl _) _
        clear hstep hst hown hat hmx
        generalize ks.getD k 0 = z at *
        go_wp2
        go_roundw
        case rel => exact ⟨k + 1, by omega, by go_num, hfin, hbfin⟩
        case measure => simp [intOf]; omega
      · rw [HKN.out, if_neg h1] at hat
        have hfin : Own (wr.setCell ⟨w.heap.size, k, none⟩ (.int .i64 (-7))) 3 1 (.slice (some ⟨w.heap.size, 0, none⟩) (nK + sp) (nK + sp)) (nK + sp) (nK + sp) (((backInts kn sp).map (Value.int .i64)).take (k + 1) ++ List.replicate ((nK + sp) - (k + 1)) (Value.int .i64 0)) := by
          rw [← hstep _ (hat ▸ hmx)]; exact hst _
        have hbfin : Below w.heap.size w (wr.setCell ⟨w.heap.size, k, none⟩ (.int .i64 (-7))) := hbel.setCell (Nat.le_refl _) _
        clear hstep hst hown hat hmx
        go_wp2
        go_roundw
        case rel => exact ⟨k + 1, by omega, by go_num, hfin, hbfin⟩
        case measure => simp [intOf]; omega
    · obtain rfl : (nK + sp) = k := by omega
      have hB : Own wr 3 1 (.slice (some ⟨w.heap.size, 0, none⟩) (nK + sp) (nK + sp)) (nK + sp) (nK + sp) ((backInts kn sp).map (Value.int .i64)) := by
        have h := hown
        rw [Nat.sub_self, List.replicate_zero, List.append_nil, List.take_of_length_le (by rw [List.length_map, HBL.out]; exact Nat.le_refl _)] at h
        exact h
      have hWr := hW.trans (hbel.mono hW.size)
      have hbcr := (hbel.block bc (Array.getElem?_eq_some_iff.1 hbc).1).trans hbc
      go_wp2
      by_cases hh : hitB ls d c kn = true
      · exact f5_tail8_row_hit (nK := nK) ks ls d c csl hWr bnl bnK iK iL hbcr hgl0 (hl.below hbel) HFL.out HLN.out kn HKN.out HK.out hin bsp hW.size (by omega) hB hh
      · exact f5_tail8_row_miss (nK := nK) ks ls d c csl hWr bnl bnK iK iL hbcr hgl0 (hl.below hbel) HFL.out HLN.out kn HKN.out HK.out hin bsp hW.size (by omega) hB (by simpa using hh)

set_option maxRecDepth 100000 in
set_option maxHeartbeats 3200000 in
theorem f5_tail6_none {u4 u5 u6 u7 u8 u10 u11 u13 u14 u15 u16 u17 u18 u19 u20 u21 u22 u23 u24 u25 u26 u27 u28 u29 u30 u31 u32 u33 u34 u35 u36 u37 u38 u39 u40 u41 u42 u43 u44 u45 u46 u47 u48 u49 u50 u51 u52 u53 u54 u55 u56 u57 u58 u59 u60 u61 u62 u63 u64 u65 u66 u67 u68 u69 u70 u71 u72 u73 u74 u75 u76 u77 u78 u79 u80 u81 u82 u83 u84 u85 u86 u87 u88 u89 u90 u91 u92 u93 u94 u95 u96 u97 u98 u99 u100 u101 u102 u103 u104 u105 u106 u107 u108 u109 u110 u111 u112 u113 u114 u115 u116 u117 u118 u119 u120 u121 u122 u123 u124 u125 u126 u127 u128 u129 u130 u131 u132 u133 u134 u135 u136 u137 u138 u139 u140 u141 u142 u143 u144 u145 u146 u147 u148 u149 u150 u151 u152 u153 u154 u155 u156 u157 u158 u159 u160 u161 u162 u163 u164 u165 u166 u167 u168 u169 u170 u171 u172 u173 u174 u175 u176 u177 u178 u179 u180 u181 u182 u183 u184 u185 u186 u187 u188 u189 u190 u191 u192 u193 u194 u195 u196 u197 u198 u199 u200 u201 u202 u203 u204 u205 u206 u207 u208 u209 u210 u211 u212 u213 u214 u215 u216 u217 u218 u219 u220 u221 u222 u223 u224 u225 u226 u227 u228 u229 u230 u231 u232 u233 u234 u235 u236 u237 u238 u239 u240 u241 u242 u243 u244 u245 u246 u247 u248 u249 u250 u251 u252 u253 u254 u255 u256 u257 u258 u259 u260 u261 u262 u263 u264 u265 u266 u267 u268 u269 u270 u271 u272 u273 u274 u275 u276 u277 u278 u279 u280 u281 u282 u283 u284 u285 u286 u287 u288 u289 u290 u291 u292 u293 u294 u295 u296 u297 u298 u299 u300 u301 u302 u303 u304 u305 u306 u307 u308 u309 u310 u311 u312 u313 : Value} {st : Int} {W0 w : World} {aL : Option Addr} {cK bK oK nl cL bL oL bc gl capl sp : Nat} (ks : List Int) (ls : List Lab) (d c : Lab) (csl : List Value)
    (hW : Below W0.heap.size W0 w) (bnl : nl ≤ 1048576) (bnK : 0 ≤ 1048576) (iK : Ints W0 (none) 0 bK oK ks) (iL : Labs W0 aL nl bL oL ls d) (hbc : w.heap[bc]? = some (.cells #[.float .f64 c.wt, .float .f64 c.lo, .float .f64 c.de, .int .i64 c.ho, .int .i64 c.st, .int .i64 c.pr] 41 (0, 0))) (hgl0 : W0.heap.size ≤ gl)
    (hl : Own w 45 6 (.slice (some ⟨gl, 0, none⟩) nl capl) nl capl csl) (hfl : csl.take (nl * 6) = flat ls) (hln : ls.length = nl)
    (kn : List Nat) (hkn : kn.length = 0) (hkk : ∀ j, j < 0 → ks.getD j 0 = ((kn.getD j 0 : Nat) : Int)) (hin : ∀ j, j < 0 → kn.getD j 0 < nl) (bsp : sp ≤ 1048576) (hsp : 0 < sp) :
    Code.wp Try.prog (dropSeq 6 (Try.f5.body.getD .skip)) (bodyPost Try.prog Try.f5 fun e w' => e = .returned (.bool true) ∧ Below W0.heap.size W0 w')
      ⟨List.toArray ((.slice aL nl cL) :: (.int .i64 st) :: (.slice none 0 cK) :: (.int .i64 (sp : Int)) :: u4 :: u5 :: u6 :: u7 :: u8 :: (.pointer (some ⟨bc, 0, none⟩)) :: u10 :: u11 :: (.slice (some ⟨gl, 0, none⟩) nl capl) :: u13 :: u14 :: u15 :: u16 :: u17 :: u18 :: u19 :: u20 :: u21 :: u22 :: u23 :: u24 :: u25 :: u26 :: u27 :: u28 :: u29 :: u30 :: u31 :: u32 :: u33 :: u34 :: u35 :: u36 :: u37 :: u38 :: u39 :: u40 :: u41 :: u42 :: u43 :: u44 :: u45 :: u46 :: u47 :: u48 :: u49 :: u50 :: u51 :: u52 :: u53 :: u54 :: u55 :: u56 :: u57 :: u58 :: u59 :: u60 :: u61 :: u62 :: u63 :: u64 :: u65 :: u66 :: u67 :: u68 :: u69 :: u70 :: u71 :: u72 :: u73 :: u74 :: u75 :: u76 :: u77 :: u78 :: u79 :: u80 :: u81 :: u82 :: u83 :: u84 :: u85 :: u86 :: u87 :: u88 :: u89 :: u90 :: u91 :: u92 :: u93 :: u94 :: u95 :: u96 :: u97 :: u98 :: u99 :: u100 :: u101 :: u102 :: u103 :: u104 :: u105 :: u106 :: u107 :: u108 :: u109 :: u110 :: u111 :: u112 :: u113 :: u114 :: u115 :: u116 :: u117 :: u118 :: u119 :: u120 :: u121 :: u122 :: u123 :: u124 :: u125 :: u126 :: u127 :: u128 :: u129 :: u130 :: u131 :: u132 :: u133 :: u134 :: u135 :: u136 :: u137 :: u138 :: u139 :: u140 :: u141 :: u142 :: u143 :: u144 :: u145 :: u146 :: u147 :: u148 :: u149 :: u150 :: u151 :: u152 :: u153 :: u154 :: u155 :: u156 :: u157 :: u158 :: u159 :: u160 :: u161 :: u162 :: u163 :: u164 :: u165 :: u166 :: u167 :: u168 :: u169 :: u170 :: u171 :: u172 :: u173 :: u174 :: u175 :: u176 :: u177 :: u178 :: u179 :: u180 :: u181 :: u182 :: u183 :: u184 :: u185 :: u186 :: u187 :: u188 :: u189 :: u190 :: u191 :: u192 :: u193 :: u194 :: u195 :: u196 :: u197 :: u198 :: u199 :: u200 :: u201 :: u202 :: u203 :: u204 :: u205 :: u206 :: u207 :: u208 :: u209 :: u210 :: u211 :: u212 :: u213 :: u214 :: u215 :: u216 :: u217 :: u218 :: u219 :: u220 :: u221 :: u222 :: u223 :: u224 :: u225 :: u226 :: u227 :: u228 :: u229 :: u230 :: u231 :: u232 :: u233 :: u234 :: u235 :: u236 :: u237 :: u238 :: u239 :: u240 :: u241 :: u242 :: u243 :: u244 :: u245 :: u246 :: u247 :: u248 :: u249 :: u250 :: u251 :: u252 :: u253 :: u254 :: u255 :: u256 :: u257 :: u258 :: u259 :: u260 :: u261 :: u262 :: u263 :: u264 :: u265 :: u266 :: u267 :: u268 :: u269 :: u270 :: u271 :: u272 :: u273 :: u274 :: u275 :: u276 :: u277 :: u278 :: u279 :: u280 :: u281 :: u282 :: u283 :: u284 :: u285 :: u286 :: u287 :: u288 :: u289 :: u290 :: u291 :: u292 :: u293 :: u294 :: u295 :: u296 :: u297 :: u298 :: u299 :: u300 :: u301 :: u302 :: u303 :: u304 :: u305 :: u306 :: u307 :: u308 :: u309 :: u310 :: u311 :: u312 :: u313 :: []), []⟩ w := by
  have HK : Hid _ := hkk
  have HKN : Hid _ := hkn
  have HFL : Hid _ := hfl
  have HLN : Hid _ := hln
  clear hkk hkn hfl hln
  obtain ⟨i3, hi3, hy0, hy1, hy2⟩ := info_parts Try.info3
  have hbl : (backInts kn sp).length = sp := by rw [backInts_length, HKN.out]; omega
  have HBL : Hid _ := hbl
  clear hbl
  go_step
  refine wp_drop 6 (Try.f5.body.getD .skip) (by kernel_rfl) (fun K hK => ?_)
  conv => arg 2; whnf
  go_wp2
  refine wp_drop 7 (Try.f5.body.getD .skip) (by kernel_rfl) (fun K hK => ?_)
  conv => arg 2; whnf
  go_wp2_with (at_make; go_must (refine wpList_make_exact _ rfl _ _ 39 rfl 3 i3 (.int .i64 0) 1 Try.underlying39 hi3 hy0 hy1 .i64 .i64 _ _ sp sp rfl rfl (by omega) (by omega) (Nat.le_refl _) (by rw [hy2]; omega) (by unfold maxLen; omega) ?_))
  have hmade := Own.made w 3 1 sp sp (Value.int .i64 0).cells (Nat.le_refl _) (by unfold maxLen; omega)
  rw [madeCells_ints] at hmade
  go_loopw [15] (fun i wr => ∃ k : Nat, k ≤ sp ∧ i = .int .i64 k ∧ Own wr 3 1 (.slice (some ⟨w.heap.size, 0, none⟩) sp sp) sp sp (((backInts kn sp).map (Value.int .i64)).take k ++ List.replicate (sp - k) (Value.int .i64 0)) ∧ Below w.heap.size w wr) (fun i _ => sp - (intOf i).toNat)
  case atStart => exact ⟨0, Nat.zero_le _, rfl, by simpa [Value.cells] using hmade, (Below.refl _ _).alloc (Nat.le_refl _) _⟩
  case round =>
    clear hmade
    obtain ⟨k, hk, rfl, hown, hbel⟩ := hrel
    by_cases hlt : k < sp
    · have hwr := hW.trans (hbel.mono hW.size)
      have hat := backInts_at kn sp k (by rw [HKN.out]; omega)
      have hstep := fun x hx => fill_step ((backInts kn sp).map (Value.int .i64)) (Value.int .i64 0) sp k (by rw [List.length_map, HBL.out]) hlt x hx
      have hmx := map_int_at (backInts kn sp) k (by rw [HBL.out]; exact hlt)
      have hst := hown.stored k
      have cB : wr.cell? ⟨w.heap.size, k, none⟩ = some (.int .i64 0) := by
        rw [hown.cell k, List.getElem?_append_right (by rw [List.length_take, List.length_map, HBL.out]; omega)]
        rw [List.length_take, List.length_map, HBL.out, List.getElem?_replicate, if_pos (by omega)]
      have fB := hown.frozen k
      have hlt' : (k : Int) < ((sp : Nat) : Int) := by omega
      rw [HKN.out, if_neg (by omega)] at hat
      have hfin : Own (wr.setCell ⟨w.heap.size, k, none⟩ (.int .i64 (-7))) 3 1 (.slice (some ⟨w.heap.size, 0, none⟩) sp sp) sp sp (((backInts kn sp).map (Value.int .i64)).take (k + 1) ++ List.replicate (sp - (k + 1)) (Value.int .i64 0)) := by
        rw [← hstep _ (hat ▸ hmx)]; exact hst _
      have hbfin : Below w.heap.size w (wr.setCell ⟨w.heap.size, k, none⟩ (.int .i64 (-7))) := hbel.setCell (Nat.le_refl _) _
      clear hstep hst hown hat hmx
      go_wp2
      go_roundw
      case rel => exact ⟨k + 1, by omega, by go_num, hfin, hbfin⟩
      case measure => simp [intOf]; omega
    · obtain rfl : sp = k := by omega
      have hB : Own wr 3 1 (.slice (some ⟨w.heap.size, 0, none⟩) sp sp) sp sp ((backInts kn sp).map (Value.int .i64)) := by
        have h := hown
        rw [Nat.sub_self, List.replicate_zero, List.append_nil, List.take_of_length_le (by rw [List.length_map, HBL.out]; exact Nat.le_refl _)] at h
        exact h
      have hWr := hW.trans (hbel.mono hW.size)
      have hbcr := (hbel.block bc (Array.getElem?_eq_some_iff.1 hbc).1).trans hbc
      go_wp2
      by_cases hh : hitB ls d c kn = true
      · exact f5_tail8_row_hit (nK := 0) ks ls d c csl hWr bnl bnK iK iL hbcr hgl0 (hl.below hbel) HFL.out HLN.out kn HKN.out HK.out hin bsp hW.size (by omega) hB hh
      · exact f5_tail8_row_miss (nK := 0) ks ls d c csl hWr bnl bnK iK iL hbcr hgl0 (hl.below hbel) HFL.out HLN.out kn HKN.out HK.out hin bsp hW.size (by omega) hB (by simpa using hh)
end Go.Proofs.Qxb6601457a
