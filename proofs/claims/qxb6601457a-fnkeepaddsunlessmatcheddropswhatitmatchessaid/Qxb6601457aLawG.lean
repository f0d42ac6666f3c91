import Derived.Test.Qxb6601457aLawF
import Derived.Test.Qxb6601457aSeq
import Derived.Test.Qxb6601457aMake
import Derived.BigQuiet
namespace Go.Proofs.Qxb6601457a
set_option linter.unusedSimpArgs false
set_option linter.unusedVariables false
open Go.RowKit Go.Sort
attribute [local go_sem] run_store_float

theorem flat_take_succ (ls : List Lab) (d : Lab) (k : Nat) (h : k < ls.length) : flat (ls.take (k + 1)) = flat (ls.take k) ++ labCells (ls.getD k d) := by
  have e : ls.take (k + 1) = ls.take k ++ [ls.getD k d] := by
    rw [List.take_succ_eq_append_getElem h]; simp [List.getD, h]
  rw [e, flat_append]; simp [flat]


set_option maxRecDepth 100000 in
set_option maxHeartbeats 3200000 in
theorem f5_tail4 {u4 u5 u6 u7 u8 u10 u11 u12 u13 u14 u15 u16 u17 u18 u19 u20 u21 u22 u23 u24 u25 u26 u27 u28 u29 u30 u31 u32 u33 u34 u35 u36 u37 u38 u39 u40 u41 u42 u43 u44 u45 u46 u47 u48 u49 u50 u51 u52 u53 u54 u55 u56 u57 u58 u59 u60 u61 u62 u63 u64 u65 u66 u67 u68 u69 u70 u71 u72 u73 u74 u75 u76 u77 u78 u79 u80 u81 u82 u83 u84 u85 u86 u87 u88 u89 u90 u91 u92 u93 u94 u95 u96 u97 u98 u99 u100 u101 u102 u103 u104 u105 u106 u107 u108 u109 u110 u111 u112 u113 u114 u115 u116 u117 u118 u119 u120 u121 u122 u123 u124 u125 u126 u127 u128 u129 u130 u131 u132 u133 u134 u135 u136 u137 u138 u139 u140 u141 u142 u143 u144 u145 u146 u147 u148 u149 u150 u151 u152 u153 u154 u155 u156 u157 u158 u159 u160 u161 u162 u163 u164 u165 u166 u167 u168 u169 u170 u171 u172 u173 u174 u175 u176 u177 u178 u179 u180 u181 u182 u183 u184 u185 u186 u187 u188 u189 u190 u191 u192 u193 u194 u195 u196 u197 u198 u199 u200 u201 u202 u203 u204 u205 u206 u207 u208 u209 u210 u211 u212 u213 u214 u215 u216 u217 u218 u219 u220 u221 u222 u223 u224 u225 u226 u227 u228 u229 u230 u231 u232 u233 u234 u235 u236 u237 u238 u239 u240 u241 u242 u243 u244 u245 u246 u247 u248 u249 u250 u251 u252 u253 u254 u255 u256 u257 u258 u259 u260 u261 u262 u263 u264 u265 u266 u267 u268 u269 u270 u271 u272 u273 u274 u275 u276 u277 u278 u279 u280 u281 u282 u283 u284 u285 u286 u287 u288 u289 u290 u291 u292 u293 u294 u295 u296 u297 u298 u299 u300 u301 u302 u303 u304 u305 u306 u307 u308 u309 u310 u311 u312 u313 : Value} {st : Int} {W0 w : World} {aK aL : Option Addr} {nK cK bK oK nl cL bL oL bc sp : Nat} (ks : List Int) (ls : List Lab) (d c : Lab)
    (hW : Below W0.heap.size W0 w) (bnl : nl ≤ 1048576) (bnK : nK ≤ 1048576) (iK : Ints W0 aK nK bK oK ks) (iL : Labs W0 aL nl bL oL ls d) (hbc : w.heap[bc]? = some (.cells #[.float .f64 c.wt, .float .f64 c.lo, .float .f64 c.de, .int .i64 c.ho, .int .i64 c.st, .int .i64 c.pr] 41 (0, 0)))
    (hln : ls.length = nl) (hak : aK = none → nK = 0)
    (kn : List Nat) (hkn : kn.length = nK) (hkk : ∀ j, j < nK → ks.getD j 0 = ((kn.getD j 0 : Nat) : Int)) (hin : ∀ j, j < nK → kn.getD j 0 < nl) (bsp : sp ≤ 1048576) :
    Code.wp Try.prog (dropSeq 4 (Try.f5.body.getD .skip)) (bodyPost Try.prog Try.f5 fun e w' => e = .returned (.bool true) ∧ Below W0.heap.size W0 w')
      ⟨List.toArray ((.slice aL nl cL) :: (.int .i64 st) :: (.slice aK nK cK) :: (.int .i64 (sp : Int)) :: u4 :: u5 :: u6 :: u7 :: u8 :: (.pointer (some ⟨bc, 0, none⟩)) :: u10 :: u11 :: u12 :: u13 :: u14 :: u15 :: u16 :: u17 :: u18 :: u19 :: u20 :: u21 :: u22 :: u23 :: u24 :: u25 :: u26 :: u27 :: u28 :: u29 :: u30 :: u31 :: u32 :: u33 :: u34 :: u35 :: u36 :: u37 :: u38 :: u39 :: u40 :: u41 :: u42 :: u43 :: u44 :: u45 :: u46 :: u47 :: u48 :: u49 :: u50 :: u51 :: u52 :: u53 :: u54 :: u55 :: u56 :: u57 :: u58 :: u59 :: u60 :: u61 :: u62 :: u63 :: u64 :: u65 :: u66 :: u67 :: u68 :: u69 :: u70 :: u71 :: u72 :: u73 :: u74 :: u75 :: u76 :: u77 :: u78 :: u79 :: u80 :: u81 :: u82 :: u83 :: u84 :: u85 :: u86 :: u87 :: u88 :: u89 :: u90 :: u91 :: u92 :: u93 :: u94 :: u95 :: u96 :: u97 :: u98 :: u99 :: u100 :: u101 :: u102 :: u103 :: u104 :: u105 :: u106 :: u107 :: u108 :: u109 :: u110 :: u111 :: u112 :: u113 :: u114 :: u115 :: u116 :: u117 :: u118 :: u119 :: u120 :: u121 :: u122 :: u123 :: u124 :: u125 :: u126 :: u127 :: u128 :: u129 :: u130 :: u131 :: u132 :: u133 :: u134 :: u135 :: u136 :: u137 :: u138 :: u139 :: u140 :: u141 :: u142 :: u143 :: u144 :: u145 :: u146 :: u147 :: u148 :: u149 :: u150 :: u151 :: u152 :: u153 :: u154 :: u155 :: u156 :: u157 :: u158 :: u159 :: u160 :: u161 :: u162 :: u163 :: u164 :: u165 :: u166 :: u167 :: u168 :: u169 :: u170 :: u171 :: u172 :: u173 :: u174 :: u175 :: u176 :: u177 :: u178 :: u179 :: u180 :: u181 :: u182 :: u183 :: u184 :: u185 :: u186 :: u187 :: u188 :: u189 :: u190 :: u191 :: u192 :: u193 :: u194 :: u195 :: u196 :: u197 :: u198 :: u199 :: u200 :: u201 :: u202 :: u203 :: u204 :: u205 :: u206 :: u207 :: u208 :: u209 :: u210 :: u211 :: u212 :: u213 :: u214 :: u215 :: u216 :: u217 :: u218 :: u219 :: u220 :: u221 :: u222 :: u223 :: u224 :: u225 :: u226 :: u227 :: u228 :: u229 :: u230 :: u231 :: u232 :: u233 :: u234 :: u235 :: u236 :: u237 :: u238 :: u239 :: u240 :: u241 :: u242 :: u243 :: u244 :: u245 :: u246 :: u247 :: u248 :: u249 :: u250 :: u251 :: u252 :: u253 :: u254 :: u255 :: u256 :: u257 :: u258 :: u259 :: u260 :: u261 :: u262 :: u263 :: u264 :: u265 :: u266 :: u267 :: u268 :: u269 :: u270 :: u271 :: u272 :: u273 :: u274 :: u275 :: u276 :: u277 :: u278 :: u279 :: u280 :: u281 :: u282 :: u283 :: u284 :: u285 :: u286 :: u287 :: u288 :: u289 :: u290 :: u291 :: u292 :: u293 :: u294 :: u295 :: u296 :: u297 :: u298 :: u299 :: u300 :: u301 :: u302 :: u303 :: u304 :: u305 :: u306 :: u307 :: u308 :: u309 :: u310 :: u311 :: u312 :: u313 :: []), []⟩ w := by
  have HK : Hid _ := hkk
  have HKN : Hid _ := hkn
  have HLN : Hid _ := hln
  have HAK : Hid _ := hak
  clear hkk hkn hln hak
  obtain ⟨i0, hi0, hz0, hz1, hz2⟩ := info_parts Try.info45
  go_step
  refine wp_drop 4 (Try.f5.body.getD .skip) (by kernel_rfl) (fun K hK => ?_)
  conv => arg 2; whnf
  go_wp2_with (at_make; go_must (refine wpList_make_exact _ rfl _ _ 43 rfl 45 i0 (.agg #[.float .f64 0, .float .f64 0, .float .f64 0, .int .i64 0, .int .i64 0, .int .i64 0]) 6 Try.underlying43 hi0 hz0 hz1 .i64 .i64 _ _ 0 nl rfl rfl rfl (by omega) (Nat.zero_le _) (by rw [hz2]; omega) (by unfold maxLen; omega) ?_))
  refine wp_drop 5 (Try.f5.body.getD .skip) (by kernel_rfl) (fun K hK => ?_)
  conv => arg 2; whnf
  go_wp2_with fail
  have hmade := Own.made w 45 6 0 nl (Value.agg #[.float .f64 0, .float .f64 0, .float .f64 0, .int .i64 0, .int .i64 0, .int .i64 0]).cells (Nat.zero_le _) (by unfold maxLen; omega)
  go_loopw [12, 13] (fun l i wr => ∃ (k : Nat) (cs : List Value), k ≤ nl ∧ i = .int .i64 k ∧ l = .slice (some ⟨w.heap.size, 0, none⟩) k nl ∧ Own wr 45 6 (.slice (some ⟨w.heap.size, 0, none⟩) k nl) k nl cs ∧ cs.take (k * 6) = flat (ls.take k) ∧ Below w.heap.size w wr) (fun _ i _ => nl - (intOf i).toNat)
  case atStart => exact ⟨0, _, Nat.zero_le _, rfl, rfl, by simpa [Value.cells] using hmade, by simp [flat], (Below.refl _ _).alloc (Nat.le_refl _) _⟩
  case round =>
    clear hmade
    obtain ⟨k, cs, hk, rfl, rfl, hown, hcs, hbel⟩ := hrel
    have HCS : Hid _ := hcs
    clear hcs
    by_cases hlt : k < nl
    · obtain ⟨x, hx⟩ : ∃ x, x = ls.getD k d := ⟨_, rfl⟩
      have hwr := hW.trans (hbel.mono hW.size)
      obtain rfl := iL.ad (by omega)
      have xl : LabAt wr bL (oL + k * 6) x := hx ▸ (iL.below hwr).cell k hlt
      have e0 := xl.c0
      have e1 := xl.c1
      have e2 := xl.c2
      have e3 := xl.c3
      have e4 := xl.c4
      have e5 := xl.c5
      have hfs := flat_take_succ ls d k (by rw [HLN.out]; exact hlt)
      rw [← hx] at hfs
      have HFS : Hid _ := hfs
      clear hx hfs xl iL iK hbc hwr
      go_wp2_with (first | (go_at_call 18; go_must (refine (toLabel_any _ _ _ _ _ _ _).mono ?_); rintro e wx ⟨rfl, hb⟩; have hown' := hown.below hb; have hsz := hb.size) | (at_builtin; go_must (refine wpList_append_exact _ rfl (.tmp 97) (.tmp 103) 43 rfl 45 i0 _ 6 48 Try.underlying43 hi0 hz0 hz1 hz2 rfl (.slice (some ⟨w.heap.size, 0, none⟩) k nl) k nl cs rfl (hown'.below ((Below.refl _ _).alloc (Nat.le_refl _) _)) ⟨wx.heap.size, 0, none⟩ 1 [.float .f64 x.wt, .float .f64 x.lo, .float .f64 x.de, .int .i64 x.ho, .int .i64 x.st, .int .i64 x.pr] rfl rfl (World.news_of_block (cs := #[.float .f64 x.wt, .float .f64 x.lo, .float .f64 x.de, .int .i64 x.ho, .int .i64 x.st, .int .i64 x.pr]) (t := 45) (fr := (0, 0)) (Go.heap_alloc_new wx _)) (lab_oneCell _ _ _ _ _ _) (by unfold maxLen; omega) (by omega) ?_); intro gl capl' wy csl' hap))
      rcases hap.ways with ⟨_, hgk, hce, _⟩ | ⟨hx, _⟩
      case inr => omega
      have hgk' : w.heap.size = gl := by simpa [Value.ownBlock] using hgk
      clear hgk
      subst hgk'
      subst hce
      have hbf : Below w.heap.size w wy := by
        have h1 : Below w.heap.size w wx := hbel.trans (hb.mono hbel.size)
        exact (h1.alloc h1.size _).grown hap.grow (by have := h1.size; simp; omega) (fun q hq => by
          have : w.heap.size = q := by simpa [Value.ownBlock] using hq
          omega)
      go_wp2
      go_roundw
      case rel => exact ⟨k + 1, csl', by omega, by go_num, rfl, hap.own, by rw [hap.take, HCS.out, HFS.out]; rfl, hbf⟩
      case measure => simp [intOf]; omega
    · obtain rfl : nl = k := by omega
      have hfl : cs.take (nl * 6) = flat ls := by rw [HCS.out, List.take_of_length_le (by rw [HLN.out]; exact Nat.le_refl _)]
      have HFL : Hid _ := hfl
      clear hfl
      have hWr := hW.trans (hbel.mono hW.size)
      have hbcr := (hbel.block bc (Array.getElem?_eq_some_iff.1 hbc).1).trans hbc
      go_wp2
      cases aK with
      | some ad => exact f5_tail6_some ks ls d c cs hWr bnl bnK iK iL hbcr hW.size hown HFL.out HLN.out kn HKN.out HK.out hin bsp
      | none =>
        obtain rfl : nK = 0 := HAK.out rfl
        by_cases hsp : 0 < sp
        · exact f5_tail6_none ks ls d c cs hWr bnl bnK iK iL hbcr hW.size hown HFL.out HLN.out kn HKN.out HK.out hin bsp hsp
        · obtain rfl : sp = 0 := by omega
          exact f5_tail6_nil ks ls d c cs hWr bnl bnK iK iL hbcr hW.size hown HFL.out HLN.out kn HKN.out HK.out hin

set_option maxRecDepth 100000 in
set_option maxHeartbeats 3200000 in
theorem f5_tail3 {u4 u5 u6 u7 u8 u10 u11 u12 u13 u14 u15 u16 u17 u18 u19 u20 u21 u22 u23 u24 u25 u26 u27 u28 u29 u30 u31 u32 u33 u34 u35 u36 u37 u38 u39 u40 u41 u42 u43 u44 u45 u46 u47 u48 u49 u50 u51 u52 u53 u54 u55 u56 u57 u58 u59 u60 u61 u62 u63 u64 u65 u66 u67 u68 u69 u70 u71 u72 u73 u74 u75 u76 u77 u78 u79 u80 u81 u82 u83 u84 u85 u86 u87 u88 u89 u90 u91 u92 u93 u94 u95 u96 u97 u98 u99 u100 u101 u102 u103 u104 u105 u106 u107 u108 u109 u110 u111 u112 u113 u114 u115 u116 u117 u118 u119 u120 u121 u122 u123 u124 u125 u126 u127 u128 u129 u130 u131 u132 u133 u134 u135 u136 u137 u138 u139 u140 u141 u142 u143 u144 u145 u146 u147 u148 u149 u150 u151 u152 u153 u154 u155 u156 u157 u158 u159 u160 u161 u162 u163 u164 u165 u166 u167 u168 u169 u170 u171 u172 u173 u174 u175 u176 u177 u178 u179 u180 u181 u182 u183 u184 u185 u186 u187 u188 u189 u190 u191 u192 u193 u194 u195 u196 u197 u198 u199 u200 u201 u202 u203 u204 u205 u206 u207 u208 u209 u210 u211 u212 u213 u214 u215 u216 u217 u218 u219 u220 u221 u222 u223 u224 u225 u226 u227 u228 u229 u230 u231 u232 u233 u234 u235 u236 u237 u238 u239 u240 u241 u242 u243 u244 u245 u246 u247 u248 u249 u250 u251 u252 u253 u254 u255 u256 u257 u258 u259 u260 u261 u262 u263 u264 u265 u266 u267 u268 u269 u270 u271 u272 u273 u274 u275 u276 u277 u278 u279 u280 u281 u282 u283 u284 u285 u286 u287 u288 u289 u290 u291 u292 u293 u294 u295 u296 u297 u298 u299 u300 u301 u302 u303 u304 u305 u306 u307 u308 u309 u310 u311 u312 u313 : Value} {st : Int} {W0 w : World} {aK aL : Option Addr} {nK cK bK oK nl cL bL oL bc sp : Nat} (ks : List Int) (ls : List Lab) (d c : Lab)
    (hW : Below W0.heap.size W0 w) (bnl : nl ≤ 1048576) (bnK : nK ≤ 1048576) (iK : Ints W0 aK nK bK oK ks) (iL : Labs W0 aL nl bL oL ls d) (hbc : w.heap[bc]? = some (.cells #[.float .f64 c.wt, .float .f64 c.lo, .float .f64 c.de, .int .i64 c.ho, .int .i64 c.st, .int .i64 c.pr] 41 (0, 0)))
    (hln : ls.length = nl) (hak : aK = none → nK = 0) (bsp : sp ≤ 1048576) :
    Code.wp Try.prog (dropSeq 3 (Try.f5.body.getD .skip)) (bodyPost Try.prog Try.f5 fun e w' => e = .returned (.bool true) ∧ Below W0.heap.size W0 w')
      ⟨List.toArray ((.slice aL nl cL) :: (.int .i64 st) :: (.slice aK nK cK) :: (.int .i64 (sp : Int)) :: u4 :: u5 :: u6 :: u7 :: u8 :: (.pointer (some ⟨bc, 0, none⟩)) :: u10 :: u11 :: u12 :: u13 :: u14 :: u15 :: u16 :: u17 :: u18 :: u19 :: u20 :: u21 :: u22 :: u23 :: u24 :: u25 :: u26 :: u27 :: u28 :: u29 :: u30 :: u31 :: u32 :: u33 :: u34 :: u35 :: u36 :: u37 :: u38 :: u39 :: u40 :: u41 :: u42 :: u43 :: u44 :: u45 :: u46 :: u47 :: u48 :: u49 :: u50 :: u51 :: u52 :: u53 :: u54 :: u55 :: u56 :: u57 :: u58 :: u59 :: u60 :: u61 :: u62 :: u63 :: u64 :: u65 :: u66 :: u67 :: u68 :: u69 :: u70 :: u71 :: u72 :: u73 :: u74 :: u75 :: u76 :: u77 :: u78 :: u79 :: u80 :: u81 :: u82 :: u83 :: u84 :: u85 :: u86 :: u87 :: u88 :: u89 :: u90 :: u91 :: u92 :: u93 :: u94 :: u95 :: u96 :: u97 :: u98 :: u99 :: u100 :: u101 :: u102 :: u103 :: u104 :: u105 :: u106 :: u107 :: u108 :: u109 :: u110 :: u111 :: u112 :: u113 :: u114 :: u115 :: u116 :: u117 :: u118 :: u119 :: u120 :: u121 :: u122 :: u123 :: u124 :: u125 :: u126 :: u127 :: u128 :: u129 :: u130 :: u131 :: u132 :: u133 :: u134 :: u135 :: u136 :: u137 :: u138 :: u139 :: u140 :: u141 :: u142 :: u143 :: u144 :: u145 :: u146 :: u147 :: u148 :: u149 :: u150 :: u151 :: u152 :: u153 :: u154 :: u155 :: u156 :: u157 :: u158 :: u159 :: u160 :: u161 :: u162 :: u163 :: u164 :: u165 :: u166 :: u167 :: u168 :: u169 :: u170 :: u171 :: u172 :: u173 :: u174 :: u175 :: u176 :: u177 :: u178 :: u179 :: u180 :: u181 :: u182 :: u183 :: u184 :: u185 :: u186 :: u187 :: u188 :: u189 :: u190 :: u191 :: u192 :: u193 :: u194 :: u195 :: u196 :: u197 :: u198 :: u199 :: u200 :: u201 :: u202 :: u203 :: u204 :: u205 :: u206 :: u207 :: u208 :: u209 :: u210 :: u211 :: u212 :: u213 :: u214 :: u215 :: u216 :: u217 :: u218 :: u219 :: u220 :: u221 :: u222 :: u223 :: u224 :: u225 :: u226 :: u227 :: u228 :: u229 :: u230 :: u231 :: u232 :: u233 :: u234 :: u235 :: u236 :: u237 :: u238 :: u239 :: u240 :: u241 :: u242 :: u243 :: u244 :: u245 :: u246 :: u247 :: u248 :: u249 :: u250 :: u251 :: u252 :: u253 :: u254 :: u255 :: u256 :: u257 :: u258 :: u259 :: u260 :: u261 :: u262 :: u263 :: u264 :: u265 :: u266 :: u267 :: u268 :: u269 :: u270 :: u271 :: u272 :: u273 :: u274 :: u275 :: u276 :: u277 :: u278 :: u279 :: u280 :: u281 :: u282 :: u283 :: u284 :: u285 :: u286 :: u287 :: u288 :: u289 :: u290 :: u291 :: u292 :: u293 :: u294 :: u295 :: u296 :: u297 :: u298 :: u299 :: u300 :: u301 :: u302 :: u303 :: u304 :: u305 :: u306 :: u307 :: u308 :: u309 :: u310 :: u311 :: u312 :: u313 :: []), []⟩ w := by
  have HLN : Hid _ := hln
  have HAK : Hid _ := hak
  have HBC : Hid _ := hbc
  clear hln hak hbc
  go_step
  refine wp_drop 3 (Try.f5.body.getD .skip) (by kernel_rfl) (fun K hK => ?_)
  conv => arg 2; whnf
  go_wp2_with fail
  go_loop [11] (fun i => ∃ k : Nat, k ≤ nK ∧ i = .int .i64 k ∧ ∀ j, j < k → 0 ≤ ks.getD j 0 ∧ ks.getD j 0 < nl) (fun i => nK - (intOf i).toNat)
  case atStart => exact ⟨0, Nat.zero_le _, rfl, fun j hj => by omega⟩
  case round =>
    obtain ⟨k, hk, rfl, hall⟩ := hrel
    by_cases hlt : k < nK
    · obtain rfl := iK.ad (by omega)
      have cK := (iK.below hW).cell k hlt
      obtain ⟨z, hz⟩ : ∃ z, z = ks.getD k 0 := ⟨_, rfl⟩
      rw [← hz] at cK
      have HZ : Hid _ := hz
      have HALL : Hid _ := hall
      clear hz hall
      by_cases h1 : z < 0
      · go_wp2
        go_ret
        exact ⟨rfl, hW⟩
      · by_cases h2 : (nl : Int) ≤ z
        · go_wp2
          go_ret
          exact ⟨rfl, hW⟩
        · go_wp2
          go_round
          case rel => exact ⟨k + 1, by omega, by go_num, fun j hj => by
              by_cases hjk : j < k
              · exact HALL.out j hjk
              · obtain rfl : j = k := by omega
                rw [← HZ.out]; omega⟩
          case measure => simp [intOf]; omega
    · obtain rfl : nK = k := by omega
      have HALL : Hid _ := hall
      clear hall
      go_wp2
      have hkl : ((List.range nK).map fun j => (ks.getD j 0).toNat).length = nK := by simp
      have hkg : ∀ j, j < nK → ((List.range nK).map fun j => (ks.getD j 0).toNat).getD j 0 = (ks.getD j 0).toNat := by
        intro j hj
        rw [List.getD_eq_getElem?_getD, List.getElem?_map, List.getElem?_range hj]; rfl
      exact f5_tail4 ks ls d c hW bnl bnK iK iL HBC.out HLN.out HAK.out _ hkl
        (fun j hj => by rw [hkg j hj]; have := (HALL.out j hj).1; omega)
        (fun j hj => by rw [hkg j hj]; have := HALL.out j hj; omega) bsp
end Go.Proofs.Qxb6601457a
