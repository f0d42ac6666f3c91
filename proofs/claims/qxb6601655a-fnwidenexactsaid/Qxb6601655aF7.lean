import Derived.Test.Qxb6601655aF6
namespace Go.Proofs.Qxb6601655a
set_option linter.unusedSimpArgs false
set_option linter.unusedVariables false
open Go.RowKit
attribute [local go_sem] Try.eq45 Try.eq46 Try.eq53 Try.ne45 Try.eq50_same Try.ne50_same


theorem ascending_no {a : Option Addr} {n c b o : Nat} {zs : List Int} {w : World} (hn : (n : Int) ≤ 4194304) (I : Ints w a n b o zs) (A : ¬ Asc zs) :
    Calls Try.prog 21 #[.slice a n c] w fun e w' => e = .returned (.bool false) ∧ Below w.heap.size w w' := by
  refine (ascending_any a n c b o zs w hn I).mono ?_
  rintro e w' ⟨r, rfl, hr, hb⟩
  cases r with
  | false => exact ⟨rfl, hb⟩
  | true => exact absurd (hr.1 rfl) A

set_option maxRecDepth 100000 in
set_option maxHeartbeats 1000000 in
theorem f7_tail4 {u6 u7 u8 u9 u10 u11 u12 u13 u14 u15 u16 u17 u18 u19 u20 u21 u22 u23 u24 u25 u26 u27 u28 u29 u30 u31 u32 u33 u34 u35 u36 u37 u38 u39 u40 u41 u42 u43 u44 u45 u46 u47 u48 u49 u50 u51 u52 u53 u54 u55 u56 u57 u58 u59 u60 u61 u62 u63 u64 u65 u66 u67 u68 u69 u70 u71 u72 u73 u74 u75 u76 u77 u78 u79 u80 u81 u82 u83 u84 u85 u86 u87 u88 u89 u90 u91 u92 u93 u94 u95 u96 u97 u98 u99 u100 u101 u102 u103 u104 u105 u106 u107 u108 u109 u110 u111 u112 u113 u114 u115 u116 u117 u118 u119 u120 u121 u122 u123 u124 u125 u126 u127 u128 u129 u130 u131 u132 u133 u134 u135 u136 u137 u138 u139 u140 u141 u142 u143 u144 u145 u146 u147 u148 u149 u150 u151 u152 u153 u154 u155 u156 u157 u158 u159 u160 u161 u162 u163 u164 u165 u166 u167 u168 u169 u170 u171 u172 u173 u174 u175 u176 u177 u178 u179 u180 u181 u182 u183 u184 u185 u186 u187 u188 u189 u190 u191 u192 u193 u194 u195 u196 u197 u198 u199 u200 u201 u202 u203 u204 u205 u206 u207 u208 u209 u210 u211 u212 u213 u214 u215 u216 u217 u218 u219 u220 u221 u222 u223 u224 u225 u226 u227 u228 u229 u230 u231 u232 u233 u234 u235 u236 u237 u238 u239 u240 u241 u242 u243 u244 u245 u246 u247 u248 u249 u250 u251 u252 u253 u254 u255 u256 : Value} {W0 w : World} {al ad ab aw ac : Option Addr} {nl cl nd cd nb cb nw cw nc cc bL oL bD oD bB oB bC oC bW oW : Nat} {lz bz cz wz : List Int} {dv : List Vl} {hw : Bool} 
    (hW : Below W0.heap.size W0 w) (IL : Ints W0 al nl bL oL lz) (VD : Vls W0 ad nd bD oD dv) (IB : Ints W0 ab nb bB oB bz) (IC : Ints W0 ac nc bC oC cz) (IW : Ints W0 aw nw bW oW wz) (b1 : (nl : Int) ≤ 1048576) (b2 : (nd : Int) ≤ 1048576) (b3 : (nb : Int) ≤ 1048576) (b4 : (nc : Int) ≤ 1048576) (b5 : (nw : Int) ≤ 1048576) :
    Code.wp Try.prog (dropSeq 4 (Try.f7.body.getD .skip)) (bodyPost Try.prog Try.f7 fun e w' => e = .returned (.bool true) ∧ Below W0.heap.size W0 w')
      ⟨List.toArray ((.slice al nl cl) :: (.slice ad nd cd) :: (.slice ab nb cb) :: (.bool hw) :: (.slice aw nw cw) :: (.slice ac nc cc) :: u6 :: u7 :: u8 :: u9 :: u10 :: u11 :: u12 :: u13 :: u14 :: u15 :: u16 :: u17 :: u18 :: u19 :: u20 :: u21 :: u22 :: u23 :: u24 :: u25 :: u26 :: u27 :: u28 :: u29 :: u30 :: u31 :: u32 :: u33 :: u34 :: u35 :: u36 :: u37 :: u38 :: u39 :: u40 :: u41 :: u42 :: u43 :: u44 :: u45 :: u46 :: u47 :: u48 :: u49 :: u50 :: u51 :: u52 :: u53 :: u54 :: u55 :: u56 :: u57 :: u58 :: u59 :: u60 :: u61 :: u62 :: u63 :: u64 :: u65 :: u66 :: u67 :: u68 :: u69 :: u70 :: u71 :: u72 :: u73 :: u74 :: u75 :: u76 :: u77 :: u78 :: u79 :: u80 :: u81 :: u82 :: u83 :: u84 :: u85 :: u86 :: u87 :: u88 :: u89 :: u90 :: u91 :: u92 :: u93 :: u94 :: u95 :: u96 :: u97 :: u98 :: u99 :: u100 :: u101 :: u102 :: u103 :: u104 :: u105 :: u106 :: u107 :: u108 :: u109 :: u110 :: u111 :: u112 :: u113 :: u114 :: u115 :: u116 :: u117 :: u118 :: u119 :: u120 :: u121 :: u122 :: u123 :: u124 :: u125 :: u126 :: u127 :: u128 :: u129 :: u130 :: u131 :: u132 :: u133 :: u134 :: u135 :: u136 :: u137 :: u138 :: u139 :: u140 :: u141 :: u142 :: u143 :: u144 :: u145 :: u146 :: u147 :: u148 :: u149 :: u150 :: u151 :: u152 :: u153 :: u154 :: u155 :: u156 :: u157 :: u158 :: u159 :: u160 :: u161 :: u162 :: u163 :: u164 :: u165 :: u166 :: u167 :: u168 :: u169 :: u170 :: u171 :: u172 :: u173 :: u174 :: u175 :: u176 :: u177 :: u178 :: u179 :: u180 :: u181 :: u182 :: u183 :: u184 :: u185 :: u186 :: u187 :: u188 :: u189 :: u190 :: u191 :: u192 :: u193 :: u194 :: u195 :: u196 :: u197 :: u198 :: u199 :: u200 :: u201 :: u202 :: u203 :: u204 :: u205 :: u206 :: u207 :: u208 :: u209 :: u210 :: u211 :: u212 :: u213 :: u214 :: u215 :: u216 :: u217 :: u218 :: u219 :: u220 :: u221 :: u222 :: u223 :: u224 :: u225 :: u226 :: u227 :: u228 :: u229 :: u230 :: u231 :: u232 :: u233 :: u234 :: u235 :: u236 :: u237 :: u238 :: u239 :: u240 :: u241 :: u242 :: u243 :: u244 :: u245 :: u246 :: u247 :: u248 :: u249 :: u250 :: u251 :: u252 :: u253 :: u254 :: u255 :: u256 :: []), []⟩ w := by
  have HIL : Hid (Ints W0 al nl bL oL lz) := IL
  have HVD : Hid (Vls W0 ad nd bD oD dv) := VD
  have HIB : Hid (Ints W0 ab nb bB oB bz) := IB
  have HIC : Hid (Ints W0 ac nc bC oC cz) := IC
  have HIW : Hid (Ints W0 aw nw bW oW wz) := IW
  clear IL VD IB IC IW
  by_cases hl : Asc lz
  · have HAL : Hid (Asc lz) := hl
    clear hl
    by_cases hc : Asc cz
    · have HAC : Hid (Asc cz) := hc
      clear hc
      go_step
      refine wp_drop 4 _ (by kernel_rfl) (fun K hK => ?_)
      conv => arg 2; whnf
      go_wp2_with (first | (have HQ := HB1; clear HQ; go_at_call 21; go_must (refine (ascending_yes (by omega) (Ints.below (Ints.below HIC.out hW) HB1.out) HAC.out).mono ?_); rintro e wy ⟨rfl, hby⟩; have HB2 : Hid _ := hby; clear hby) | (go_at_call 21; go_must (refine (ascending_yes (by omega) (Ints.below HIL.out hW) HAL.out).mono ?_); rintro e wx ⟨rfl, hbx⟩; have HB1 : Hid _ := hbx; clear hbx))
      have h12 := HB1.out.trans (HB2.out.mono HB1.out.size)
      exact f7_tail5 ⟨HIL.out, HVD.out, HIB.out, HIC.out, ⟨b1, b2, b3, b4⟩, HAL.out, HAC.out⟩ (hW.trans (h12.mono hW.size)) HIW.out b5
    · have HAC : Hid (¬ Asc cz) := hc
      clear hc
      go_step
      refine wp_drop 4 _ (by kernel_rfl) (fun K hK => ?_)
      conv => arg 2; whnf
      go_wp2_with (first | (have HQ := HB1; clear HQ; go_at_call 21; go_must (refine (ascending_no (by omega) (Ints.below (Ints.below HIC.out hW) HB1.out) HAC.out).mono ?_); rintro e wy ⟨rfl, hby⟩; have HB2 : Hid _ := hby; clear hby) | (go_at_call 21; go_must (refine (ascending_yes (by omega) (Ints.below HIL.out hW) HAL.out).mono ?_); rintro e wx ⟨rfl, hbx⟩; have HB1 : Hid _ := hbx; clear hbx))
      go_ret
      have h12 := HB1.out.trans (HB2.out.mono HB1.out.size)
      exact ⟨rfl, hW.trans (h12.mono hW.size)⟩
  · have HAL : Hid (¬ Asc lz) := hl
    clear hl
    go_step
    refine wp_drop 4 _ (by kernel_rfl) (fun K hK => ?_)
    conv => arg 2; whnf
    go_wp2_with (go_at_call 21; go_must (refine (ascending_no (by omega) (Ints.below HIL.out hW) HAL.out).mono ?_); rintro e wx ⟨rfl, hbx⟩; have HB1 : Hid _ := hbx; clear hbx)
    go_ret
    exact ⟨rfl, hW.trans (HB1.out.mono hW.size)⟩

set_option maxRecDepth 100000 in
set_option maxHeartbeats 1000000 in
theorem f7_tail3 {u6 u7 u8 u9 u10 u11 u12 u13 u14 u15 u16 u17 u18 u19 u20 u21 u22 u23 u24 u25 u26 u27 u28 u29 u30 u31 u32 u33 u34 u35 u36 u37 u38 u39 u40 u41 u42 u43 u44 u45 u46 u47 u48 u49 u50 u51 u52 u53 u54 u55 u56 u57 u58 u59 u60 u61 u62 u63 u64 u65 u66 u67 u68 u69 u70 u71 u72 u73 u74 u75 u76 u77 u78 u79 u80 u81 u82 u83 u84 u85 u86 u87 u88 u89 u90 u91 u92 u93 u94 u95 u96 u97 u98 u99 u100 u101 u102 u103 u104 u105 u106 u107 u108 u109 u110 u111 u112 u113 u114 u115 u116 u117 u118 u119 u120 u121 u122 u123 u124 u125 u126 u127 u128 u129 u130 u131 u132 u133 u134 u135 u136 u137 u138 u139 u140 u141 u142 u143 u144 u145 u146 u147 u148 u149 u150 u151 u152 u153 u154 u155 u156 u157 u158 u159 u160 u161 u162 u163 u164 u165 u166 u167 u168 u169 u170 u171 u172 u173 u174 u175 u176 u177 u178 u179 u180 u181 u182 u183 u184 u185 u186 u187 u188 u189 u190 u191 u192 u193 u194 u195 u196 u197 u198 u199 u200 u201 u202 u203 u204 u205 u206 u207 u208 u209 u210 u211 u212 u213 u214 u215 u216 u217 u218 u219 u220 u221 u222 u223 u224 u225 u226 u227 u228 u229 u230 u231 u232 u233 u234 u235 u236 u237 u238 u239 u240 u241 u242 u243 u244 u245 u246 u247 u248 u249 u250 u251 u252 u253 u254 u255 u256 : Value} {W0 w : World} {al ad ab aw ac : Option Addr} {nl cl nd cd nb cb nw cw nc cc bL oL bD oD bB oB bC oC bW oW : Nat} {lz bz cz wz : List Int} {dv : List Vl} {hw : Bool} 
    (hW : Below W0.heap.size W0 w) (IL : Ints W0 al nl bL oL lz) (VD : Vls W0 ad nd bD oD dv) (IB : Ints W0 ab nb bB oB bz) (IC : Ints W0 ac nc bC oC cz) (IW : Ints W0 aw nw bW oW wz) (b1 : (nl : Int) ≤ 1048576) (b2 : (nd : Int) ≤ 1048576) (b3 : (nb : Int) ≤ 1048576) (b4 : (nc : Int) ≤ 1048576) (b5 : (nw : Int) ≤ 1048576) :
    Code.wp Try.prog (dropSeq 3 (Try.f7.body.getD .skip)) (bodyPost Try.prog Try.f7 fun e w' => e = .returned (.bool true) ∧ Below W0.heap.size W0 w')
      ⟨List.toArray ((.slice al nl cl) :: (.slice ad nd cd) :: (.slice ab nb cb) :: (.bool hw) :: (.slice aw nw cw) :: (.slice ac nc cc) :: u6 :: u7 :: u8 :: u9 :: u10 :: u11 :: u12 :: u13 :: u14 :: u15 :: u16 :: u17 :: u18 :: u19 :: u20 :: u21 :: u22 :: u23 :: u24 :: u25 :: u26 :: u27 :: u28 :: u29 :: u30 :: u31 :: u32 :: u33 :: u34 :: u35 :: u36 :: u37 :: u38 :: u39 :: u40 :: u41 :: u42 :: u43 :: u44 :: u45 :: u46 :: u47 :: u48 :: u49 :: u50 :: u51 :: u52 :: u53 :: u54 :: u55 :: u56 :: u57 :: u58 :: u59 :: u60 :: u61 :: u62 :: u63 :: u64 :: u65 :: u66 :: u67 :: u68 :: u69 :: u70 :: u71 :: u72 :: u73 :: u74 :: u75 :: u76 :: u77 :: u78 :: u79 :: u80 :: u81 :: u82 :: u83 :: u84 :: u85 :: u86 :: u87 :: u88 :: u89 :: u90 :: u91 :: u92 :: u93 :: u94 :: u95 :: u96 :: u97 :: u98 :: u99 :: u100 :: u101 :: u102 :: u103 :: u104 :: u105 :: u106 :: u107 :: u108 :: u109 :: u110 :: u111 :: u112 :: u113 :: u114 :: u115 :: u116 :: u117 :: u118 :: u119 :: u120 :: u121 :: u122 :: u123 :: u124 :: u125 :: u126 :: u127 :: u128 :: u129 :: u130 :: u131 :: u132 :: u133 :: u134 :: u135 :: u136 :: u137 :: u138 :: u139 :: u140 :: u141 :: u142 :: u143 :: u144 :: u145 :: u146 :: u147 :: u148 :: u149 :: u150 :: u151 :: u152 :: u153 :: u154 :: u155 :: u156 :: u157 :: u158 :: u159 :: u160 :: u161 :: u162 :: u163 :: u164 :: u165 :: u166 :: u167 :: u168 :: u169 :: u170 :: u171 :: u172 :: u173 :: u174 :: u175 :: u176 :: u177 :: u178 :: u179 :: u180 :: u181 :: u182 :: u183 :: u184 :: u185 :: u186 :: u187 :: u188 :: u189 :: u190 :: u191 :: u192 :: u193 :: u194 :: u195 :: u196 :: u197 :: u198 :: u199 :: u200 :: u201 :: u202 :: u203 :: u204 :: u205 :: u206 :: u207 :: u208 :: u209 :: u210 :: u211 :: u212 :: u213 :: u214 :: u215 :: u216 :: u217 :: u218 :: u219 :: u220 :: u221 :: u222 :: u223 :: u224 :: u225 :: u226 :: u227 :: u228 :: u229 :: u230 :: u231 :: u232 :: u233 :: u234 :: u235 :: u236 :: u237 :: u238 :: u239 :: u240 :: u241 :: u242 :: u243 :: u244 :: u245 :: u246 :: u247 :: u248 :: u249 :: u250 :: u251 :: u252 :: u253 :: u254 :: u255 :: u256 :: []), []⟩ w := by
  have HIL : Hid (Ints W0 al nl bL oL lz) := IL
  have HVD : Hid (Vls W0 ad nd bD oD dv) := VD
  have HIB : Hid (Ints W0 ab nb bB oB bz) := IB
  have HIC : Hid (Ints W0 ac nc bC oC cz) := IC
  have HIW : Hid (Ints W0 aw nw bW oW wz) := IW
  clear IL VD IB IC IW
  go_step
  refine wp_drop 3 _ (by kernel_rfl) (fun K hK => ?_)
  conv => arg 2; whnf
  go_wp2_with (go_at_call 20; go_must (refine (valsBytes_any _ _ _ _ _ _ _ (by omega) (Vls.below HVD.out hW)).mono ?_); rintro e wx ⟨z, rfl, hz, hwx⟩; subst hwx)
  all_goals first | (go_ret; exact ⟨rfl, hW⟩) | exact f7_tail4 hW HIL.out HVD.out HIB.out HIC.out HIW.out b1 b2 b3 b4 b5

set_option maxRecDepth 100000 in
set_option maxHeartbeats 1000000 in
theorem f7_tail2 {u6 u7 u8 u9 u10 u11 u12 u13 u14 u15 u16 u17 u18 u19 u20 u21 u22 u23 u24 u25 u26 u27 u28 u29 u30 u31 u32 u33 u34 u35 u36 u37 u38 u39 u40 u41 u42 u43 u44 u45 u46 u47 u48 u49 u50 u51 u52 u53 u54 u55 u56 u57 u58 u59 u60 u61 u62 u63 u64 u65 u66 u67 u68 u69 u70 u71 u72 u73 u74 u75 u76 u77 u78 u79 u80 u81 u82 u83 u84 u85 u86 u87 u88 u89 u90 u91 u92 u93 u94 u95 u96 u97 u98 u99 u100 u101 u102 u103 u104 u105 u106 u107 u108 u109 u110 u111 u112 u113 u114 u115 u116 u117 u118 u119 u120 u121 u122 u123 u124 u125 u126 u127 u128 u129 u130 u131 u132 u133 u134 u135 u136 u137 u138 u139 u140 u141 u142 u143 u144 u145 u146 u147 u148 u149 u150 u151 u152 u153 u154 u155 u156 u157 u158 u159 u160 u161 u162 u163 u164 u165 u166 u167 u168 u169 u170 u171 u172 u173 u174 u175 u176 u177 u178 u179 u180 u181 u182 u183 u184 u185 u186 u187 u188 u189 u190 u191 u192 u193 u194 u195 u196 u197 u198 u199 u200 u201 u202 u203 u204 u205 u206 u207 u208 u209 u210 u211 u212 u213 u214 u215 u216 u217 u218 u219 u220 u221 u222 u223 u224 u225 u226 u227 u228 u229 u230 u231 u232 u233 u234 u235 u236 u237 u238 u239 u240 u241 u242 u243 u244 u245 u246 u247 u248 u249 u250 u251 u252 u253 u254 u255 u256 : Value} {W0 w : World} {al ad ab aw ac : Option Addr} {nl cl nd cd nb cb nw cw nc cc bL oL bD oD bB oB bC oC bW oW : Nat} {lz bz cz wz : List Int} {dv : List Vl} {hw : Bool} 
    (hW : Below W0.heap.size W0 w) (IL : Ints W0 al nl bL oL lz) (VD : Vls W0 ad nd bD oD dv) (IB : Ints W0 ab nb bB oB bz) (IC : Ints W0 ac nc bC oC cz) (IW : Ints W0 aw nw bW oW wz) (m0 : nl ≤ 9223372036854775807) (m1 : nd ≤ 9223372036854775807) (m2 : nb ≤ 9223372036854775807) (m4 : nw ≤ 9223372036854775807) (m5 : nc ≤ 9223372036854775807) :
    Code.wp Try.prog (dropSeq 2 (Try.f7.body.getD .skip)) (bodyPost Try.prog Try.f7 fun e w' => e = .returned (.bool true) ∧ Below W0.heap.size W0 w')
      ⟨List.toArray ((.slice al nl cl) :: (.slice ad nd cd) :: (.slice ab nb cb) :: (.bool hw) :: (.slice aw nw cw) :: (.slice ac nc cc) :: u6 :: u7 :: u8 :: u9 :: u10 :: u11 :: u12 :: u13 :: u14 :: u15 :: u16 :: u17 :: u18 :: u19 :: u20 :: u21 :: u22 :: u23 :: u24 :: u25 :: u26 :: u27 :: u28 :: u29 :: u30 :: u31 :: u32 :: u33 :: u34 :: u35 :: u36 :: u37 :: u38 :: u39 :: u40 :: u41 :: u42 :: u43 :: u44 :: u45 :: u46 :: u47 :: u48 :: u49 :: u50 :: u51 :: u52 :: u53 :: u54 :: u55 :: u56 :: u57 :: u58 :: u59 :: u60 :: u61 :: u62 :: u63 :: u64 :: u65 :: u66 :: u67 :: u68 :: u69 :: u70 :: u71 :: u72 :: u73 :: u74 :: u75 :: u76 :: u77 :: u78 :: u79 :: u80 :: u81 :: u82 :: u83 :: u84 :: u85 :: u86 :: u87 :: u88 :: u89 :: u90 :: u91 :: u92 :: u93 :: u94 :: u95 :: u96 :: u97 :: u98 :: u99 :: u100 :: u101 :: u102 :: u103 :: u104 :: u105 :: u106 :: u107 :: u108 :: u109 :: u110 :: u111 :: u112 :: u113 :: u114 :: u115 :: u116 :: u117 :: u118 :: u119 :: u120 :: u121 :: u122 :: u123 :: u124 :: u125 :: u126 :: u127 :: u128 :: u129 :: u130 :: u131 :: u132 :: u133 :: u134 :: u135 :: u136 :: u137 :: u138 :: u139 :: u140 :: u141 :: u142 :: u143 :: u144 :: u145 :: u146 :: u147 :: u148 :: u149 :: u150 :: u151 :: u152 :: u153 :: u154 :: u155 :: u156 :: u157 :: u158 :: u159 :: u160 :: u161 :: u162 :: u163 :: u164 :: u165 :: u166 :: u167 :: u168 :: u169 :: u170 :: u171 :: u172 :: u173 :: u174 :: u175 :: u176 :: u177 :: u178 :: u179 :: u180 :: u181 :: u182 :: u183 :: u184 :: u185 :: u186 :: u187 :: u188 :: u189 :: u190 :: u191 :: u192 :: u193 :: u194 :: u195 :: u196 :: u197 :: u198 :: u199 :: u200 :: u201 :: u202 :: u203 :: u204 :: u205 :: u206 :: u207 :: u208 :: u209 :: u210 :: u211 :: u212 :: u213 :: u214 :: u215 :: u216 :: u217 :: u218 :: u219 :: u220 :: u221 :: u222 :: u223 :: u224 :: u225 :: u226 :: u227 :: u228 :: u229 :: u230 :: u231 :: u232 :: u233 :: u234 :: u235 :: u236 :: u237 :: u238 :: u239 :: u240 :: u241 :: u242 :: u243 :: u244 :: u245 :: u246 :: u247 :: u248 :: u249 :: u250 :: u251 :: u252 :: u253 :: u254 :: u255 :: u256 :: []), []⟩ w := by
  have HIL : Hid (Ints W0 al nl bL oL lz) := IL
  have HVD : Hid (Vls W0 ad nd bD oD dv) := VD
  have HIB : Hid (Ints W0 ab nb bB oB bz) := IB
  have HIC : Hid (Ints W0 ac nc bC oC cz) := IC
  have HIW : Hid (Ints W0 aw nw bW oW wz) := IW
  clear IL VD IB IC IW
  by_cases b1 : (nl : Int) ≤ 1048576
  case neg =>
    clear HIL HVD HIB HIC HIW
    go_step
    refine wp_drop 2 _ (by kernel_rfl) (fun K hK => ?_)
    conv => arg 2; whnf
    go_wp2_with fail
    all_goals first | (exfalso; omega) | skip
    go_ret
    exact ⟨rfl, hW⟩
  by_cases b2 : (nd : Int) ≤ 1048576
  case neg =>
    clear HIL HVD HIB HIC HIW
    go_step
    refine wp_drop 2 _ (by kernel_rfl) (fun K hK => ?_)
    conv => arg 2; whnf
    go_wp2_with fail
    all_goals first | (exfalso; omega) | skip
    go_ret
    exact ⟨rfl, hW⟩
  by_cases b3 : (nb : Int) ≤ 1048576
  case neg =>
    clear HIL HVD HIB HIC HIW
    go_step
    refine wp_drop 2 _ (by kernel_rfl) (fun K hK => ?_)
    conv => arg 2; whnf
    go_wp2_with fail
    all_goals first | (exfalso; omega) | skip
    go_ret
    exact ⟨rfl, hW⟩
  by_cases b5 : (nw : Int) ≤ 1048576
  case neg =>
    clear HIL HVD HIB HIC HIW
    go_step
    refine wp_drop 2 _ (by kernel_rfl) (fun K hK => ?_)
    conv => arg 2; whnf
    go_wp2_with fail
    all_goals first | (exfalso; omega) | skip
    go_ret
    exact ⟨rfl, hW⟩
  by_cases b4 : (nc : Int) ≤ 1048576
  case neg =>
    clear HIL HVD HIB HIC HIW
    go_step
    refine wp_drop 2 _ (by kernel_rfl) (fun K hK => ?_)
    conv => arg 2; whnf
    go_wp2_with fail
    all_goals first | (exfalso; omega) | skip
    go_ret
    exact ⟨rfl, hW⟩
  go_step
  refine wp_drop 2 _ (by kernel_rfl) (fun K hK => ?_)
  conv => arg 2; whnf
  go_wp2_with fail
  all_goals first | (exfalso; omega) | exact f7_tail3 hW HIL.out HVD.out HIB.out HIC.out HIW.out b1 b2 b3 b4 b5

set_option maxRecDepth 100000 in
set_option maxHeartbeats 1000000 in
theorem law7 {W0 : World} {al ad ab aw ac : Option Addr} {nl cl nd cd nb cb nw cw nc cc bL oL bD oD bB oB bC oC bW oW : Nat} {lz bz cz wz : List Int} {dv : List Vl} {hw : Bool}
    (IL : Ints W0 al nl bL oL lz) (VD : Vls W0 ad nd bD oD dv) (IB : Ints W0 ab nb bB oB bz) (IC : Ints W0 ac nc bC oC cz) (IW : Ints W0 aw nw bW oW wz)
    (m0 : nl ≤ 9223372036854775807) (m1 : nd ≤ 9223372036854775807) (m2 : nb ≤ 9223372036854775807) (m4 : nw ≤ 9223372036854775807) (m5 : nc ≤ 9223372036854775807) :
    Calls Try.prog 7 #[.slice al nl cl, .slice ad nd cd, .slice ab nb cb, .bool hw, .slice aw nw cw, .slice ac nc cc] W0 fun e w' => e = .returned (.bool true) ∧ Below W0.heap.size W0 w' := by
  have HIL : Hid (Ints W0 al nl bL oL lz) := IL
  have HVD : Hid (Vls W0 ad nd bD oD dv) := VD
  have HIB : Hid (Ints W0 ab nb bB oB bz) := IB
  have HIC : Hid (Ints W0 ac nc bC oC cz) := IC
  have HIW : Hid (Ints W0 aw nw bW oW wz) := IW
  clear IL VD IB IC IW
  go_enter Try.func7, Try.ntmps7
  refine wp_drop 0 _ (by kernel_rfl) (fun K hK => ?_)
  conv => arg 2; whnf
  go_wp2_with fail
  refine wp_drop 1 _ (by kernel_rfl) (fun K hK => ?_)
  conv => arg 2; whnf
  go_wp2_with (go_at_call 19; go_must (refine (zzBytes_any _ _ _ _ _ _ _ _ _ _ _ _ _ _ _ _ _ _ _ _ HVD.out m0 m1 m2 m4 m5).mono ?_); rintro e wx ⟨⟨t, rfl⟩, hbx⟩; have HB1 : Hid _ := hbx; clear hbx)
  all_goals first | (go_ret; exact ⟨rfl, HB1.out⟩) | exact f7_tail2 HB1.out HIL.out HVD.out HIB.out HIC.out HIW.out m0 m1 m2 m4 m5
end Go.Proofs.Qxb6601655a
