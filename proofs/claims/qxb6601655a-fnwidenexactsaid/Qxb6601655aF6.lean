import Derived.Test.Qxb6601655aF5
namespace Go.Proofs.Qxb6601655a
set_option linter.unusedSimpArgs false
set_option linter.unusedVariables false
open Go.RowKit
attribute [local go_sem] Try.eq45 Try.eq46 Try.eq53 Try.ne45 Try.eq50_same Try.ne50_same

set_option maxRecDepth 100000 in
set_option maxHeartbeats 1000000 in
theorem f7_tail7 {u6 u7 u8 u9 u10 u11 u12 u14 u15 u16 u17 u18 u19 u20 u21 u22 u23 u24 u25 u26 u27 u28 u29 u30 u31 u32 u33 u34 u35 u36 u37 u38 u39 u40 u41 u42 u43 u44 u45 u46 u47 u48 u49 u50 u51 u52 u53 u54 u55 u56 u57 u58 u59 u60 u61 u62 u63 u64 u65 u66 u67 u68 u69 u70 u71 u72 u73 u74 u75 u76 u77 u78 u79 u80 u81 u82 u83 u84 u85 u86 u87 u88 u89 u90 u91 u92 u93 u94 u95 u96 u97 u98 u99 u100 u101 u102 u103 u104 u105 u106 u107 u108 u109 u110 u111 u112 u113 u114 u115 u116 u117 u118 u119 u120 u121 u122 u123 u124 u125 u126 u127 u128 u129 u130 u131 u132 u133 u134 u135 u136 u137 u138 u139 u140 u141 u142 u143 u144 u145 u146 u147 u148 u149 u150 u151 u152 u153 u154 u155 u156 u157 u158 u159 u160 u161 u162 u163 u164 u165 u166 u167 u168 u169 u170 u171 u172 u173 u174 u175 u176 u177 u178 u179 u180 u181 u182 u183 u184 u185 u186 u187 u188 u189 u190 u191 u192 u193 u194 u195 u196 u197 u198 u199 u200 u201 u202 u203 u204 u205 u206 u207 u208 u209 u210 u211 u212 u213 u214 u215 u216 u217 u218 u219 u220 u221 u222 u223 u224 u225 u226 u227 u228 u229 u230 u231 u232 u233 u234 u235 u236 u237 u238 u239 u240 u241 u242 u243 u244 u245 u246 u247 u248 u249 u250 u251 u252 u253 u254 u255 u256 : Value} {W0 w : World} {al ad ab aw ac : Option Addr} {nl cl nd cd nb cb nw cw nc cc bL oL bD oD bB oB bC oC : Nat} {lz bz cz : List Int} {dv : List Vl} {hw : Bool} {po : Option Addr}
    (A : Arg W0 al ad ab ac nl nd nb nc bL oL bD oD bB oB bC oC lz bz cz dv) (hW : Below W0.heap.size W0 w) (O : OldL w po w.heap.size) :
    Code.wp Try.prog (dropSeq 7 (Try.f7.body.getD .skip)) (bodyPost Try.prog Try.f7 fun e w' => e = .returned (.bool true) ∧ Below W0.heap.size W0 w')
      ⟨List.toArray ((.slice al nl cl) :: (.slice ad nd cd) :: (.slice ab nb cb) :: (.bool hw) :: (.slice aw nw cw) :: (.slice ac nc cc) :: u6 :: u7 :: u8 :: u9 :: u10 :: u11 :: u12 :: (.pointer po) :: u14 :: u15 :: u16 :: u17 :: u18 :: u19 :: u20 :: u21 :: u22 :: u23 :: u24 :: u25 :: u26 :: u27 :: u28 :: u29 :: u30 :: u31 :: u32 :: u33 :: u34 :: u35 :: u36 :: u37 :: u38 :: u39 :: u40 :: u41 :: u42 :: u43 :: u44 :: u45 :: u46 :: u47 :: u48 :: u49 :: u50 :: u51 :: u52 :: u53 :: u54 :: u55 :: u56 :: u57 :: u58 :: u59 :: u60 :: u61 :: u62 :: u63 :: u64 :: u65 :: u66 :: u67 :: u68 :: u69 :: u70 :: u71 :: u72 :: u73 :: u74 :: u75 :: u76 :: u77 :: u78 :: u79 :: u80 :: u81 :: u82 :: u83 :: u84 :: u85 :: u86 :: u87 :: u88 :: u89 :: u90 :: u91 :: u92 :: u93 :: u94 :: u95 :: u96 :: u97 :: u98 :: u99 :: u100 :: u101 :: u102 :: u103 :: u104 :: u105 :: u106 :: u107 :: u108 :: u109 :: u110 :: u111 :: u112 :: u113 :: u114 :: u115 :: u116 :: u117 :: u118 :: u119 :: u120 :: u121 :: u122 :: u123 :: u124 :: u125 :: u126 :: u127 :: u128 :: u129 :: u130 :: u131 :: u132 :: u133 :: u134 :: u135 :: u136 :: u137 :: u138 :: u139 :: u140 :: u141 :: u142 :: u143 :: u144 :: u145 :: u146 :: u147 :: u148 :: u149 :: u150 :: u151 :: u152 :: u153 :: u154 :: u155 :: u156 :: u157 :: u158 :: u159 :: u160 :: u161 :: u162 :: u163 :: u164 :: u165 :: u166 :: u167 :: u168 :: u169 :: u170 :: u171 :: u172 :: u173 :: u174 :: u175 :: u176 :: u177 :: u178 :: u179 :: u180 :: u181 :: u182 :: u183 :: u184 :: u185 :: u186 :: u187 :: u188 :: u189 :: u190 :: u191 :: u192 :: u193 :: u194 :: u195 :: u196 :: u197 :: u198 :: u199 :: u200 :: u201 :: u202 :: u203 :: u204 :: u205 :: u206 :: u207 :: u208 :: u209 :: u210 :: u211 :: u212 :: u213 :: u214 :: u215 :: u216 :: u217 :: u218 :: u219 :: u220 :: u221 :: u222 :: u223 :: u224 :: u225 :: u226 :: u227 :: u228 :: u229 :: u230 :: u231 :: u232 :: u233 :: u234 :: u235 :: u236 :: u237 :: u238 :: u239 :: u240 :: u241 :: u242 :: u243 :: u244 :: u245 :: u246 :: u247 :: u248 :: u249 :: u250 :: u251 :: u252 :: u253 :: u254 :: u255 :: u256 :: []), []⟩ w := by
  have HA : Hid _ := A
  obtain ⟨b1, b2, b3, b4⟩ := A.bnd
  have HIL : Hid (Ints w al nl bL oL lz) := A.il.below hW
  have HVD : Hid (Vls w ad nd bD oD dv) := A.vd.below hW
  have HIB : Hid (Ints w ab nb bB oB bz) := A.ib.below hW
  have HO : Hid (OldL w po w.heap.size) := O
  clear A O
  go_step
  refine wp_drop 7 _ (by kernel_rfl) (fun K hK => ?_)
  conv => arg 2; whnf
  go_wp2_with (first | (go_at_call 22; go_must (refine (makeLayout_any _ _ _ _ _ _ _ _ _ _ _).mono ?_); rintro e wz ⟨rfl, hwz⟩; have HWZ : Hid _ := hwz; clear hwz) | (go_at_call 24; go_must (refine (toValues_any _ _ _ _ _ _ _ (by omega) (Vls.below HVD.out HB1.out)).mono ?_); rintro e w2 ⟨ad2, gd, rfl, hn2, hI2, hg2, hb2⟩; have HB2 : Hid _ := hb2; have HI2 : Hid (Vls w2 ad2 _ gd 0 _) := hI2; have HN2 : Hid _ := hn2; clear hb2 hI2 hn2) | (have HQ := HB2; clear HQ; go_at_call 23; go_must (refine (cloneInts_any _ _ _ _ _ _ _ (by omega) (Ints.below (Ints.below HIB.out HB1.out) HB2.out)).mono ?_); rintro e w3 ⟨ab2, gb, rfl, hn3, hI3, hg3, hb3⟩; have HB3 : Hid _ := hb3; have HI3 : Hid (Ints w3 ab2 _ gb 0 _) := hI3; have HN3 : Hid _ := hn3; clear hb3 hI3 hn3) | (go_at_call 23; go_must (refine (cloneInts_any _ _ _ _ _ _ _ (by omega) HIL.out).mono ?_); rintro e w1 ⟨al2, gl, rfl, hn1, hI1, hg1, hb1⟩; have HB1 : Hid _ := hb1; have HI1 : Hid (Ints w1 al2 _ gl 0 _) := hI1; have HN1 : Hid _ := hn1; clear hb1 hI1 hn1))
  have hwz := HWZ.out
  have h1 := HB1.out
  have h2 := HB2.out
  have h3 := HB3.out
  have h12 := h1.trans (h2.mono h1.size)
  have h13 := h12.trans (h3.mono h12.size)
  have h4 : Below w3.heap.size w3 wz := by rw [hwz]; exact (Below.refl _ _).alloc (Nat.le_refl _) _
  have h14 := h13.trans (h4.mono h13.size)
  have h34 := h3.trans (h4.mono h3.size)
  have h24 := h2.trans (h34.mono h2.size)
  have hL : wz.heap[w3.heap.size]? = some (.cells #[.slice al2 nl nl, .slice ad2 nd nd, .slice ab2 nb nb, .pointer po] 73 (0, 0)) := by rw [hwz]; exact Go.heap_alloc_new _ _
  have s1 := h1.size
  have s2 := h2.size
  have s3 := h3.size
  refine f7_tail8 (gb := gb) HA.out (hW.trans (h14.mono hW.size)) hL (by have := hW.size; omega) ?_ (HI1.out.below h24) HN1.out (fun h => by have := Ints.lt HI1.out h; omega) (Vls.below HI2.out h34) HN2.out (fun h => by have := Vls.lt HI2.out h; omega) (Ints.below HI3.out h4) HN3.out
  rcases OldL.below HO.out h14 with h | ⟨bo, co, e1, e2, e3⟩
  · exact .inl h
  · exact .inr ⟨bo, co, e1, by omega, e3⟩

set_option maxRecDepth 100000 in
set_option maxHeartbeats 1000000 in
theorem f7_tail5 {u6 u7 u8 u9 u10 u11 u12 u13 u14 u15 u16 u17 u18 u19 u20 u21 u22 u23 u24 u25 u26 u27 u28 u29 u30 u31 u32 u33 u34 u35 u36 u37 u38 u39 u40 u41 u42 u43 u44 u45 u46 u47 u48 u49 u50 u51 u52 u53 u54 u55 u56 u57 u58 u59 u60 u61 u62 u63 u64 u65 u66 u67 u68 u69 u70 u71 u72 u73 u74 u75 u76 u77 u78 u79 u80 u81 u82 u83 u84 u85 u86 u87 u88 u89 u90 u91 u92 u93 u94 u95 u96 u97 u98 u99 u100 u101 u102 u103 u104 u105 u106 u107 u108 u109 u110 u111 u112 u113 u114 u115 u116 u117 u118 u119 u120 u121 u122 u123 u124 u125 u126 u127 u128 u129 u130 u131 u132 u133 u134 u135 u136 u137 u138 u139 u140 u141 u142 u143 u144 u145 u146 u147 u148 u149 u150 u151 u152 u153 u154 u155 u156 u157 u158 u159 u160 u161 u162 u163 u164 u165 u166 u167 u168 u169 u170 u171 u172 u173 u174 u175 u176 u177 u178 u179 u180 u181 u182 u183 u184 u185 u186 u187 u188 u189 u190 u191 u192 u193 u194 u195 u196 u197 u198 u199 u200 u201 u202 u203 u204 u205 u206 u207 u208 u209 u210 u211 u212 u213 u214 u215 u216 u217 u218 u219 u220 u221 u222 u223 u224 u225 u226 u227 u228 u229 u230 u231 u232 u233 u234 u235 u236 u237 u238 u239 u240 u241 u242 u243 u244 u245 u246 u247 u248 u249 u250 u251 u252 u253 u254 u255 u256 : Value} {W0 w : World} {al ad ab aw ac : Option Addr} {nl cl nd cd nb cb nw cw nc cc bL oL bD oD bB oB bC oC : Nat} {lz bz cz : List Int} {dv : List Vl} {hw : Bool} {bW oW : Nat} {wz : List Int}
    (A : Arg W0 al ad ab ac nl nd nb nc bL oL bD oD bB oB bC oC lz bz cz dv) (hW : Below W0.heap.size W0 w) (IW : Ints W0 aw nw bW oW wz) (b5 : (nw : Int) ≤ 1048576) :
    Code.wp Try.prog (dropSeq 5 (Try.f7.body.getD .skip)) (bodyPost Try.prog Try.f7 fun e w' => e = .returned (.bool true) ∧ Below W0.heap.size W0 w')
      ⟨List.toArray ((.slice al nl cl) :: (.slice ad nd cd) :: (.slice ab nb cb) :: (.bool hw) :: (.slice aw nw cw) :: (.slice ac nc cc) :: u6 :: u7 :: u8 :: u9 :: u10 :: u11 :: u12 :: u13 :: u14 :: u15 :: u16 :: u17 :: u18 :: u19 :: u20 :: u21 :: u22 :: u23 :: u24 :: u25 :: u26 :: u27 :: u28 :: u29 :: u30 :: u31 :: u32 :: u33 :: u34 :: u35 :: u36 :: u37 :: u38 :: u39 :: u40 :: u41 :: u42 :: u43 :: u44 :: u45 :: u46 :: u47 :: u48 :: u49 :: u50 :: u51 :: u52 :: u53 :: u54 :: u55 :: u56 :: u57 :: u58 :: u59 :: u60 :: u61 :: u62 :: u63 :: u64 :: u65 :: u66 :: u67 :: u68 :: u69 :: u70 :: u71 :: u72 :: u73 :: u74 :: u75 :: u76 :: u77 :: u78 :: u79 :: u80 :: u81 :: u82 :: u83 :: u84 :: u85 :: u86 :: u87 :: u88 :: u89 :: u90 :: u91 :: u92 :: u93 :: u94 :: u95 :: u96 :: u97 :: u98 :: u99 :: u100 :: u101 :: u102 :: u103 :: u104 :: u105 :: u106 :: u107 :: u108 :: u109 :: u110 :: u111 :: u112 :: u113 :: u114 :: u115 :: u116 :: u117 :: u118 :: u119 :: u120 :: u121 :: u122 :: u123 :: u124 :: u125 :: u126 :: u127 :: u128 :: u129 :: u130 :: u131 :: u132 :: u133 :: u134 :: u135 :: u136 :: u137 :: u138 :: u139 :: u140 :: u141 :: u142 :: u143 :: u144 :: u145 :: u146 :: u147 :: u148 :: u149 :: u150 :: u151 :: u152 :: u153 :: u154 :: u155 :: u156 :: u157 :: u158 :: u159 :: u160 :: u161 :: u162 :: u163 :: u164 :: u165 :: u166 :: u167 :: u168 :: u169 :: u170 :: u171 :: u172 :: u173 :: u174 :: u175 :: u176 :: u177 :: u178 :: u179 :: u180 :: u181 :: u182 :: u183 :: u184 :: u185 :: u186 :: u187 :: u188 :: u189 :: u190 :: u191 :: u192 :: u193 :: u194 :: u195 :: u196 :: u197 :: u198 :: u199 :: u200 :: u201 :: u202 :: u203 :: u204 :: u205 :: u206 :: u207 :: u208 :: u209 :: u210 :: u211 :: u212 :: u213 :: u214 :: u215 :: u216 :: u217 :: u218 :: u219 :: u220 :: u221 :: u222 :: u223 :: u224 :: u225 :: u226 :: u227 :: u228 :: u229 :: u230 :: u231 :: u232 :: u233 :: u234 :: u235 :: u236 :: u237 :: u238 :: u239 :: u240 :: u241 :: u242 :: u243 :: u244 :: u245 :: u246 :: u247 :: u248 :: u249 :: u250 :: u251 :: u252 :: u253 :: u254 :: u255 :: u256 :: []), []⟩ w := by
  have HA : Hid _ := A
  obtain ⟨b1, b2, b3, b4⟩ := A.bnd
  have HIW : Hid (Ints w aw nw bW oW wz) := IW.below hW
  have HVD : Hid (Vls w ad nd bD oD dv) := A.vd.below hW
  clear A IW
  go_step
  refine wp_drop 5 _ (by kernel_rfl) (fun K hK => ?_)
  conv => arg 2; whnf
  go_wp2_with fail
  cases hw with
  | false =>
    refine wp_drop 6 _ (by kernel_rfl) (fun K hK => ?_)
    conv => arg 2; whnf
    go_wp2_with fail
    exact f7_tail7 HA.out hW (.inl rfl)
  | true =>
    refine wp_drop 6 _ (by kernel_rfl) (fun K hK => ?_)
    conv => arg 2; whnf
    go_wp2_with (first | (go_at_call 22; go_must (refine (makeLayout_any _ _ _ _ _ _ _ _ _ _ _).mono ?_); rintro e wy ⟨rfl, hwy⟩; have HWY : Hid _ := hwy; clear hwy) | (go_at_call 24; go_must (refine (toValues_any _ _ _ _ _ _ _ (by omega) (Vls.below HVD.out HB1.out)).mono ?_); rintro e w2 ⟨ad2, gd, rfl, hn2, hI2, hg2, hb2⟩; have HB2 : Hid _ := hb2; have HI2 : Hid (Vls w2 ad2 _ gd 0 _) := hI2; have HN2 : Hid _ := hn2; clear hb2 hI2 hn2) | (go_at_call 23; go_must (refine (cloneInts_any _ _ _ _ _ _ _ (by omega) HIW.out).mono ?_); rintro e w1 ⟨aw2, gw, rfl, hn1, hI1, hg1, hb1⟩; have HB1 : Hid _ := hb1; have HI1 : Hid (Ints w1 aw2 _ gw 0 _) := hI1; have HN1 : Hid _ := hn1; clear hb1 hI1 hn1))
    have hwy := HWY.out
    have h1 := HB1.out
    have h2 := HB2.out
    have h12 := h1.trans (h2.mono h1.size)
    have h4 : Below w2.heap.size w2 wy := by rw [hwy]; exact (Below.refl _ _).alloc (Nat.le_refl _) _
    have h14 := h12.trans (h4.mono h12.size)
    have hL : wy.heap[w2.heap.size]? = some (.cells #[.slice aw2 nw nw, .slice ad2 nd nd, .slice none 0 0, .pointer none] 73 (0, 0)) := by rw [hwy]; exact Go.heap_alloc_new _ _
    exact f7_tail7 HA.out (hW.trans (h14.mono hW.size)) (.inr ⟨w2.heap.size, _, rfl, (Array.getElem?_eq_some_iff.1 hL).1, hL⟩)

end Go.Proofs.Qxb6601655a
