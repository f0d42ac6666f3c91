import Derived.Test.Qxb6601655aF1
namespace Go.Proofs.Qxb6601655a
set_option linter.unusedSimpArgs false
set_option linter.unusedVariables false
open Go.RowKit
attribute [local go_sem] Try.eq45 Try.eq46 Try.eq53 Try.ne45 Try.eq50_same Try.ne50_same


/-- The layout made anew: none where it would hold more than half; else a block of its own, its columns the row r. -/
def Fresh (w : World) (vd : Value) (nd : Nat) (r : List Int) (pg : Option Addr) (B : Nat) : Prop :=
  (nd < 2 * r.length ∧ pg = none) ∨ (2 * r.length ≤ nd ∧ ∃ g ar cr gr, pg = some ⟨g, 0, none⟩ ∧ B ≤ g ∧ w.heap[g]? = some (.cells #[.slice ar r.length cr, vd, .slice none 0 0, .pointer none] 73 (0, 0)) ∧ Ints w ar r.length gr 0 r)

theorem block_later {w w' : World} {g : Nat} {o : Obj} (h : w.heap[g]? = some o) (hb : Below w.heap.size w w') : w'.heap[g]? = some o := (hb.block g (Array.getElem?_eq_some_iff.1 h).1).trans h

theorem Fresh.below {w w' : World} {vd : Value} {nd : Nat} {r : List Int} {pg : Option Addr} {B : Nat} (h : Fresh w vd nd r pg B) (hb : Below w.heap.size w w') : Fresh w' vd nd r pg B := by
  rcases h with h | ⟨h1, g, ar, cr, gr, h2, h3, h4, h5⟩
  · exact .inl h
  · exact .inr ⟨h1, g, ar, cr, gr, h2, h3, block_later h4 hb, h5.below hb⟩

/-- The elder layout: nil, or a block ahead of B. -/
def OldL (w : World) (po : Option Addr) (B : Nat) : Prop := po = none ∨ ∃ bo co, po = some ⟨bo, 0, none⟩ ∧ bo < B ∧ w.heap[bo]? = some (.cells co 73 (0, 0))

theorem OldL.below {w w' : World} {po : Option Addr} {B : Nat} (h : OldL w po B) (hb : Below w.heap.size w w') : OldL w' po B := by
  rcases h with h | ⟨bo, co, h1, h2, h3⟩
  · exact .inl h
  · exact .inr ⟨bo, co, h1, h2, block_later h3 hb⟩

set_option maxRecDepth 100000 in
set_option maxHeartbeats 3200000 in
theorem f7_tail19 {u6 u7 u8 u9 u10 u11 u12 u13 u14 u15 u16 u17 u18 u19 u20 u21 u27 u28 u29 u30 u31 u32 u33 u34 u35 u36 u37 u38 u39 u40 u41 u42 u43 u44 u45 u46 u47 u48 u49 u50 u51 u52 u53 u54 u55 u56 u57 u58 u59 u60 u61 u62 u63 u64 u65 u66 u67 u68 u69 u70 u71 u72 u73 u74 u75 u76 u77 u78 u79 u80 u81 u82 u83 u84 u85 u86 u87 u88 u89 u90 u91 u92 u93 u94 u95 u96 u97 u98 u99 u100 u101 u102 u103 u104 u105 u106 u107 u108 u109 u110 u111 u112 u113 u114 u115 u116 u117 u118 u119 u120 u121 u122 u123 u124 u125 u126 u127 u128 u129 u130 u131 u132 u133 u134 u135 u136 u137 u138 u139 u140 u141 u142 u143 u144 u145 u146 u147 u148 u149 u150 u151 u152 u153 u154 u155 u156 u157 u158 u159 u160 u161 u162 u163 u164 u165 u166 u167 u168 u169 u170 u171 u172 u173 u174 u175 u176 u177 u178 u179 u180 u181 u182 u183 u184 u185 u186 u187 u188 u189 u190 u191 u192 u193 u194 u195 u196 u197 u198 u199 u200 u201 u202 u203 u204 u205 u206 u207 u208 u209 u210 u211 u212 u213 u214 u215 u216 u217 u218 u219 u220 u221 u222 u223 u224 u225 u226 u227 u228 u229 u230 u231 u232 u233 u234 u235 u236 u237 u238 u239 u240 u241 u242 u243 u244 u245 u246 u247 u248 u249 u250 u251 u252 u253 u254 u255 u256 : Value} {W0 w : World} {al ad ab aw ac : Option Addr} {nl cl nd cd nb cb nw cw nc cc bL oL bD oD bB oB bC oC : Nat} {lz bz cz : List Int} {dv : List Vl} {hw : Bool} {ar ad2 : Option Addr} {r : List Int} {cr gr gd : Nat}
    (A : Arg W0 al ad ab ac nl nd nb nc bL oL bD oD bB oB bC oC lz bz cz dv) (hW : Below W0.heap.size W0 w) (R : Ints w ar r.length gr 0 r) (br : (r.length : Int) ≤ 2097152) (sub : ∀ x ∈ r, x ∈ lz ∨ x ∈ cz) (asr : Asc r) (V : Vls w ad2 nd gd 0 dv) (hn : ad2 = none ↔ ad = none) :
    Code.wp Try.prog (dropSeq 19 (Try.f7.body.getD .skip)) (bodyPost Try.prog Try.f7 fun e w' => e = .returned (.bool true) ∧ Below W0.heap.size W0 w')
      ⟨List.toArray ((.slice al nl cl) :: (.slice ad nd cd) :: (.slice ab nb cb) :: (.bool hw) :: (.slice aw nw cw) :: (.slice ac nc cc) :: u6 :: u7 :: u8 :: u9 :: u10 :: u11 :: u12 :: u13 :: u14 :: u15 :: u16 :: u17 :: u18 :: u19 :: u20 :: u21 :: (.int .i64 r.length) :: (.slice ar r.length cr) :: (.slice ad2 nd nd) :: (.slice none 0 0) :: (.pointer none) :: u27 :: u28 :: u29 :: u30 :: u31 :: u32 :: u33 :: u34 :: u35 :: u36 :: u37 :: u38 :: u39 :: u40 :: u41 :: u42 :: u43 :: u44 :: u45 :: u46 :: u47 :: u48 :: u49 :: u50 :: u51 :: u52 :: u53 :: u54 :: u55 :: u56 :: u57 :: u58 :: u59 :: u60 :: u61 :: u62 :: u63 :: u64 :: u65 :: u66 :: u67 :: u68 :: u69 :: u70 :: u71 :: u72 :: u73 :: u74 :: u75 :: u76 :: u77 :: u78 :: u79 :: u80 :: u81 :: u82 :: u83 :: u84 :: u85 :: u86 :: u87 :: u88 :: u89 :: u90 :: u91 :: u92 :: u93 :: u94 :: u95 :: u96 :: u97 :: u98 :: u99 :: u100 :: u101 :: u102 :: u103 :: u104 :: u105 :: u106 :: u107 :: u108 :: u109 :: u110 :: u111 :: u112 :: u113 :: u114 :: u115 :: u116 :: u117 :: u118 :: u119 :: u120 :: u121 :: u122 :: u123 :: u124 :: u125 :: u126 :: u127 :: u128 :: u129 :: u130 :: u131 :: u132 :: u133 :: u134 :: u135 :: u136 :: u137 :: u138 :: u139 :: u140 :: u141 :: u142 :: u143 :: u144 :: u145 :: u146 :: u147 :: u148 :: u149 :: u150 :: u151 :: u152 :: u153 :: u154 :: u155 :: u156 :: u157 :: u158 :: u159 :: u160 :: u161 :: u162 :: u163 :: u164 :: u165 :: u166 :: u167 :: u168 :: u169 :: u170 :: u171 :: u172 :: u173 :: u174 :: u175 :: u176 :: u177 :: u178 :: u179 :: u180 :: u181 :: u182 :: u183 :: u184 :: u185 :: u186 :: u187 :: u188 :: u189 :: u190 :: u191 :: u192 :: u193 :: u194 :: u195 :: u196 :: u197 :: u198 :: u199 :: u200 :: u201 :: u202 :: u203 :: u204 :: u205 :: u206 :: u207 :: u208 :: u209 :: u210 :: u211 :: u212 :: u213 :: u214 :: u215 :: u216 :: u217 :: u218 :: u219 :: u220 :: u221 :: u222 :: u223 :: u224 :: u225 :: u226 :: u227 :: u228 :: u229 :: u230 :: u231 :: u232 :: u233 :: u234 :: u235 :: u236 :: u237 :: u238 :: u239 :: u240 :: u241 :: u242 :: u243 :: u244 :: u245 :: u246 :: u247 :: u248 :: u249 :: u250 :: u251 :: u252 :: u253 :: u254 :: u255 :: u256 :: []), []⟩ w := by
  have HA : Hid _ := A
  obtain ⟨b1, b2, b3, b4⟩ := A.bnd
  have HR : Hid (Ints w ar r.length gr 0 r) := R
  have HS : Hid _ := sub
  have HAR : Hid (Asc r) := asr
  have HV : Hid (Vls w ad2 nd gd 0 dv) := V
  have HN : Hid _ := hn
  have HVD : Hid (Vls w ad nd bD oD dv) := A.vd.below hW
  clear A R sub asr V hn
  go_step
  refine wp_drop 19 _ (by kernel_rfl) (fun K hK => ?_)
  conv => arg 2; whnf
  go_wp2_with (first | (go_at_call 21; go_must (refine (ascending_yes (by omega) HR.out HAR.out).mono ?_); rintro e wx ⟨rfl, hbx⟩; have HBX : Hid _ := hbx; clear hbx) | (go_at_call 28; go_must (refine (sameValues_any _ _ _ _ _ _ _ _ _ _ _ (by omega) (Vls.below HV.out HBX.out) (Vls.below HVD.out HBX.out) HN.out).mono ?_); rintro e wy ⟨rfl, hby⟩; have HBY : Hid _ := hby; clear hby))
  have hxy := HBX.out.trans (HBY.out.mono HBX.out.size)
  exact f7_tail20 HA.out (hW.trans (hxy.mono hW.size)) (HR.out.below hxy) br HS.out

set_option maxRecDepth 100000 in
set_option maxHeartbeats 3200000 in
theorem f7_tail18 {u6 u7 u8 u9 u10 u11 u12 u13 u14 u16 u17 u18 u19 u20 u21 u23 u24 u25 u26 u27 u28 u29 u30 u31 u32 u33 u34 u35 u36 u37 u38 u39 u40 u41 u42 u43 u44 u45 u46 u47 u48 u49 u50 u51 u52 u53 u54 u55 u56 u57 u58 u59 u60 u61 u62 u63 u64 u65 u66 u67 u68 u69 u70 u71 u72 u73 u74 u75 u76 u77 u78 u79 u80 u81 u82 u83 u84 u85 u86 u87 u88 u89 u90 u91 u92 u93 u94 u95 u96 u97 u98 u99 u100 u101 u102 u103 u104 u105 u106 u107 u108 u109 u110 u111 u112 u113 u114 u115 u116 u117 u118 u119 u120 u121 u122 u123 u124 u125 u126 u127 u128 u129 u130 u131 u132 u133 u134 u135 u136 u137 u138 u139 u140 u141 u142 u143 u144 u145 u146 u147 u148 u149 u150 u151 u152 u153 u154 u155 u156 u157 u158 u159 u160 u161 u162 u163 u164 u165 u166 u167 u168 u169 u170 u171 u172 u173 u174 u175 u176 u177 u178 u179 u180 u181 u182 u183 u184 u185 u186 u187 u188 u189 u190 u191 u192 u193 u194 u195 u196 u197 u198 u199 u200 u201 u202 u203 u204 u205 u206 u207 u208 u209 u210 u211 u212 u213 u214 u215 u216 u217 u218 u219 u220 u221 u222 u223 u224 u225 u226 u227 u228 u229 u230 u231 u232 u233 u234 u235 u236 u237 u238 u239 u240 u241 u242 u243 u244 u245 u246 u247 u248 u249 u250 u251 u252 u253 u254 u255 u256 : Value} {W0 w : World} {al ad ab aw ac : Option Addr} {nl cl nd cd nb cb nw cw nc cc bL oL bD oD bB oB bC oC : Nat} {lz bz cz : List Int} {dv : List Vl} {hw : Bool} {ar ad2 : Option Addr} {r : List Int} {cr gr gd : Nat} {g : Nat}
    (A : Arg W0 al ad ab ac nl nd nb nc bL oL bD oD bB oB bC oC lz bz cz dv) (hW : Below W0.heap.size W0 w) (G : w.heap[g]? = some (.cells #[.slice ar r.length cr, .slice ad2 nd nd, .slice none 0 0, .pointer none] 73 (0, 0))) (R : Ints w ar r.length gr 0 r) (br : (r.length : Int) ≤ 2097152) (sub : ∀ x ∈ r, x ∈ lz ∨ x ∈ cz) (asr : Asc r) (V : Vls w ad2 nd gd 0 dv) (hn : ad2 = none ↔ ad = none) :
    Code.wp Try.prog (dropSeq 18 (Try.f7.body.getD .skip)) (bodyPost Try.prog Try.f7 fun e w' => e = .returned (.bool true) ∧ Below W0.heap.size W0 w')
      ⟨List.toArray ((.slice al nl cl) :: (.slice ad nd cd) :: (.slice ab nb cb) :: (.bool hw) :: (.slice aw nw cw) :: (.slice ac nc cc) :: u6 :: u7 :: u8 :: u9 :: u10 :: u11 :: u12 :: u13 :: u14 :: (.pointer (some ⟨g, 0, none⟩)) :: u16 :: u17 :: u18 :: u19 :: u20 :: u21 :: (.int .i64 r.length) :: u23 :: u24 :: u25 :: u26 :: u27 :: u28 :: u29 :: u30 :: u31 :: u32 :: u33 :: u34 :: u35 :: u36 :: u37 :: u38 :: u39 :: u40 :: u41 :: u42 :: u43 :: u44 :: u45 :: u46 :: u47 :: u48 :: u49 :: u50 :: u51 :: u52 :: u53 :: u54 :: u55 :: u56 :: u57 :: u58 :: u59 :: u60 :: u61 :: u62 :: u63 :: u64 :: u65 :: u66 :: u67 :: u68 :: u69 :: u70 :: u71 :: u72 :: u73 :: u74 :: u75 :: u76 :: u77 :: u78 :: u79 :: u80 :: u81 :: u82 :: u83 :: u84 :: u85 :: u86 :: u87 :: u88 :: u89 :: u90 :: u91 :: u92 :: u93 :: u94 :: u95 :: u96 :: u97 :: u98 :: u99 :: u100 :: u101 :: u102 :: u103 :: u104 :: u105 :: u106 :: u107 :: u108 :: u109 :: u110 :: u111 :: u112 :: u113 :: u114 :: u115 :: u116 :: u117 :: u118 :: u119 :: u120 :: u121 :: u122 :: u123 :: u124 :: u125 :: u126 :: u127 :: u128 :: u129 :: u130 :: u131 :: u132 :: u133 :: u134 :: u135 :: u136 :: u137 :: u138 :: u139 :: u140 :: u141 :: u142 :: u143 :: u144 :: u145 :: u146 :: u147 :: u148 :: u149 :: u150 :: u151 :: u152 :: u153 :: u154 :: u155 :: u156 :: u157 :: u158 :: u159 :: u160 :: u161 :: u162 :: u163 :: u164 :: u165 :: u166 :: u167 :: u168 :: u169 :: u170 :: u171 :: u172 :: u173 :: u174 :: u175 :: u176 :: u177 :: u178 :: u179 :: u180 :: u181 :: u182 :: u183 :: u184 :: u185 :: u186 :: u187 :: u188 :: u189 :: u190 :: u191 :: u192 :: u193 :: u194 :: u195 :: u196 :: u197 :: u198 :: u199 :: u200 :: u201 :: u202 :: u203 :: u204 :: u205 :: u206 :: u207 :: u208 :: u209 :: u210 :: u211 :: u212 :: u213 :: u214 :: u215 :: u216 :: u217 :: u218 :: u219 :: u220 :: u221 :: u222 :: u223 :: u224 :: u225 :: u226 :: u227 :: u228 :: u229 :: u230 :: u231 :: u232 :: u233 :: u234 :: u235 :: u236 :: u237 :: u238 :: u239 :: u240 :: u241 :: u242 :: u243 :: u244 :: u245 :: u246 :: u247 :: u248 :: u249 :: u250 :: u251 :: u252 :: u253 :: u254 :: u255 :: u256 :: []), []⟩ w := by
  have HA : Hid _ := A
  obtain ⟨b1, b2, b3, b4⟩ := A.bnd
  have HR : Hid (Ints w ar r.length gr 0 r) := R
  have HS : Hid _ := sub
  have HAR : Hid (Asc r) := asr
  have HV : Hid (Vls w ad2 nd gd 0 dv) := V
  have HN : Hid _ := hn
  have HG : Hid (w.heap[g]? = some (.cells #[.slice ar r.length cr, .slice ad2 nd nd, .slice none 0 0, .pointer none] 73 (0, 0))) := G
  clear A R sub asr V hn G
  go_step
  refine wp_drop 18 _ (by kernel_rfl) (fun K hK => ?_)
  conv => arg 2; whnf
  go_wp2_with (go_at_call 26; go_must (refine (layoutFields_any _ _ _ _ _ _ _ _ _ _ _ _ HG.out).mono ?_); rintro e wx ⟨rfl, hbx⟩; have HBX : Hid _ := hbx; clear hbx)
  exact f7_tail19 HA.out (hW.trans (HBX.out.mono hW.size)) (HR.out.below HBX.out) br HS.out HAR.out (Vls.below HV.out HBX.out) HN.out

set_option maxRecDepth 100000 in
set_option maxHeartbeats 3200000 in
theorem f7_tail17 {u6 u7 u8 u9 u10 u11 u12 u16 u17 u18 u19 u20 u21 u23 u24 u25 u26 u27 u28 u29 u30 u31 u32 u33 u34 u35 u36 u37 u38 u39 u40 u41 u42 u43 u44 u45 u46 u47 u48 u49 u50 u51 u52 u53 u54 u55 u56 u57 u58 u59 u60 u61 u62 u63 u64 u65 u66 u67 u68 u69 u70 u71 u72 u73 u74 u75 u76 u77 u78 u79 u80 u81 u82 u83 u84 u85 u86 u87 u88 u89 u90 u91 u92 u93 u94 u95 u96 u97 u98 u99 u100 u101 u102 u103 u104 u105 u106 u107 u108 u109 u110 u111 u112 u113 u114 u115 u116 u117 u118 u119 u120 u121 u122 u123 u124 u125 u126 u127 u128 u129 u130 u131 u132 u133 u134 u135 u136 u137 u138 u139 u140 u141 u142 u143 u144 u145 u146 u147 u148 u149 u150 u151 u152 u153 u154 u155 u156 u157 u158 u159 u160 u161 u162 u163 u164 u165 u166 u167 u168 u169 u170 u171 u172 u173 u174 u175 u176 u177 u178 u179 u180 u181 u182 u183 u184 u185 u186 u187 u188 u189 u190 u191 u192 u193 u194 u195 u196 u197 u198 u199 u200 u201 u202 u203 u204 u205 u206 u207 u208 u209 u210 u211 u212 u213 u214 u215 u216 u217 u218 u219 u220 u221 u222 u223 u224 u225 u226 u227 u228 u229 u230 u231 u232 u233 u234 u235 u236 u237 u238 u239 u240 u241 u242 u243 u244 u245 u246 u247 u248 u249 u250 u251 u252 u253 u254 u255 u256 : Value} {W0 w : World} {al ad ab aw ac : Option Addr} {nl cl nd cd nb cb nw cw nc cc bL oL bD oD bB oB bC oC : Nat} {lz bz cz : List Int} {dv : List Vl} {hw : Bool} {ar ad2 : Option Addr} {r : List Int} {cr gr gd : Nat} {g bl B : Nat} {po : Option Addr} {xl : Array Value}
    (A : Arg W0 al ad ab ac nl nd nb nc bL oL bD oD bB oB bC oC lz bz cz dv) (hW : Below W0.heap.size W0 w) (G : w.heap[g]? = some (.cells #[.slice ar r.length cr, .slice ad2 nd nd, .slice none 0 0, .pointer none] 73 (0, 0))) (hL : w.heap[bl]? = some (.cells xl 73 (0, 0))) (hlB : bl < B) (hgB : B ≤ g) (O : OldL w po B) (R : Ints w ar r.length gr 0 r) (br : (r.length : Int) ≤ 2097152) (sub : ∀ x ∈ r, x ∈ lz ∨ x ∈ cz) (asr : Asc r) (V : Vls w ad2 nd gd 0 dv) (hn : ad2 = none ↔ ad = none) :
    Code.wp Try.prog (dropSeq 17 (Try.f7.body.getD .skip)) (bodyPost Try.prog Try.f7 fun e w' => e = .returned (.bool true) ∧ Below W0.heap.size W0 w')
      ⟨List.toArray ((.slice al nl cl) :: (.slice ad nd cd) :: (.slice ab nb cb) :: (.bool hw) :: (.slice aw nw cw) :: (.slice ac nc cc) :: u6 :: u7 :: u8 :: u9 :: u10 :: u11 :: u12 :: (.pointer po) :: (.pointer (some ⟨bl, 0, none⟩)) :: (.pointer (some ⟨g, 0, none⟩)) :: u16 :: u17 :: u18 :: u19 :: u20 :: u21 :: (.int .i64 r.length) :: u23 :: u24 :: u25 :: u26 :: u27 :: u28 :: u29 :: u30 :: u31 :: u32 :: u33 :: u34 :: u35 :: u36 :: u37 :: u38 :: u39 :: u40 :: u41 :: u42 :: u43 :: u44 :: u45 :: u46 :: u47 :: u48 :: u49 :: u50 :: u51 :: u52 :: u53 :: u54 :: u55 :: u56 :: u57 :: u58 :: u59 :: u60 :: u61 :: u62 :: u63 :: u64 :: u65 :: u66 :: u67 :: u68 :: u69 :: u70 :: u71 :: u72 :: u73 :: u74 :: u75 :: u76 :: u77 :: u78 :: u79 :: u80 :: u81 :: u82 :: u83 :: u84 :: u85 :: u86 :: u87 :: u88 :: u89 :: u90 :: u91 :: u92 :: u93 :: u94 :: u95 :: u96 :: u97 :: u98 :: u99 :: u100 :: u101 :: u102 :: u103 :: u104 :: u105 :: u106 :: u107 :: u108 :: u109 :: u110 :: u111 :: u112 :: u113 :: u114 :: u115 :: u116 :: u117 :: u118 :: u119 :: u120 :: u121 :: u122 :: u123 :: u124 :: u125 :: u126 :: u127 :: u128 :: u129 :: u130 :: u131 :: u132 :: u133 :: u134 :: u135 :: u136 :: u137 :: u138 :: u139 :: u140 :: u141 :: u142 :: u143 :: u144 :: u145 :: u146 :: u147 :: u148 :: u149 :: u150 :: u151 :: u152 :: u153 :: u154 :: u155 :: u156 :: u157 :: u158 :: u159 :: u160 :: u161 :: u162 :: u163 :: u164 :: u165 :: u166 :: u167 :: u168 :: u169 :: u170 :: u171 :: u172 :: u173 :: u174 :: u175 :: u176 :: u177 :: u178 :: u179 :: u180 :: u181 :: u182 :: u183 :: u184 :: u185 :: u186 :: u187 :: u188 :: u189 :: u190 :: u191 :: u192 :: u193 :: u194 :: u195 :: u196 :: u197 :: u198 :: u199 :: u200 :: u201 :: u202 :: u203 :: u204 :: u205 :: u206 :: u207 :: u208 :: u209 :: u210 :: u211 :: u212 :: u213 :: u214 :: u215 :: u216 :: u217 :: u218 :: u219 :: u220 :: u221 :: u222 :: u223 :: u224 :: u225 :: u226 :: u227 :: u228 :: u229 :: u230 :: u231 :: u232 :: u233 :: u234 :: u235 :: u236 :: u237 :: u238 :: u239 :: u240 :: u241 :: u242 :: u243 :: u244 :: u245 :: u246 :: u247 :: u248 :: u249 :: u250 :: u251 :: u252 :: u253 :: u254 :: u255 :: u256 :: []), []⟩ w := by
  have HA : Hid _ := A
  obtain ⟨b1, b2, b3, b4⟩ := A.bnd
  have HR : Hid (Ints w ar r.length gr 0 r) := R
  have HS : Hid _ := sub
  have HAR : Hid (Asc r) := asr
  have HV : Hid (Vls w ad2 nd gd 0 dv) := V
  have HN : Hid _ := hn
  have HG : Hid (w.heap[g]? = some (.cells #[.slice ar r.length cr, .slice ad2 nd nd, .slice none 0 0, .pointer none] 73 (0, 0))) := G
  have e1 := Try.eq50_other (g := g) (b := bl) (by omega) G hL
  rcases O with rfl | ⟨bo, co, rfl, hbo, hO⟩
  · clear A R sub asr V hn G hL
    go_step
    refine wp_drop 17 _ (by kernel_rfl) (fun K hK => ?_)
    conv => arg 2; whnf
    go_wp2_with fail
    exact f7_tail18 HA.out hW HG.out HR.out br HS.out HAR.out HV.out HN.out
  · have e2 := Try.eq50_other (g := g) (b := bo) (by omega) G hO
    clear A R sub asr V hn G hL hO
    go_step
    refine wp_drop 17 _ (by kernel_rfl) (fun K hK => ?_)
    conv => arg 2; whnf
    go_wp2_with fail
    exact f7_tail18 HA.out hW HG.out HR.out br HS.out HAR.out HV.out HN.out

set_option maxRecDepth 100000 in
set_option maxHeartbeats 3200000 in
theorem f7_tail16 {u6 u7 u8 u9 u10 u11 u12 u16 u17 u18 u19 u20 u21 u23 u24 u25 u26 u27 u28 u29 u30 u31 u32 u33 u34 u35 u36 u37 u38 u39 u40 u41 u42 u43 u44 u45 u46 u47 u48 u49 u50 u51 u52 u53 u54 u55 u56 u57 u58 u59 u60 u61 u62 u63 u64 u65 u66 u67 u68 u69 u70 u71 u72 u73 u74 u75 u76 u77 u78 u79 u80 u81 u82 u83 u84 u85 u86 u87 u88 u89 u90 u91 u92 u93 u94 u95 u96 u97 u98 u99 u100 u101 u102 u103 u104 u105 u106 u107 u108 u109 u110 u111 u112 u113 u114 u115 u116 u117 u118 u119 u120 u121 u122 u123 u124 u125 u126 u127 u128 u129 u130 u131 u132 u133 u134 u135 u136 u137 u138 u139 u140 u141 u142 u143 u144 u145 u146 u147 u148 u149 u150 u151 u152 u153 u154 u155 u156 u157 u158 u159 u160 u161 u162 u163 u164 u165 u166 u167 u168 u169 u170 u171 u172 u173 u174 u175 u176 u177 u178 u179 u180 u181 u182 u183 u184 u185 u186 u187 u188 u189 u190 u191 u192 u193 u194 u195 u196 u197 u198 u199 u200 u201 u202 u203 u204 u205 u206 u207 u208 u209 u210 u211 u212 u213 u214 u215 u216 u217 u218 u219 u220 u221 u222 u223 u224 u225 u226 u227 u228 u229 u230 u231 u232 u233 u234 u235 u236 u237 u238 u239 u240 u241 u242 u243 u244 u245 u246 u247 u248 u249 u250 u251 u252 u253 u254 u255 u256 : Value} {W0 w : World} {al ad ab aw ac : Option Addr} {nl cl nd cd nb cb nw cw nc cc bL oL bD oD bB oB bC oC : Nat} {lz bz cz : List Int} {dv : List Vl} {hw : Bool} {ad2 : Option Addr} {r : List Int} {gd bl B : Nat} {po pg : Option Addr} {xl : Array Value}
    (A : Arg W0 al ad ab ac nl nd nb nc bL oL bD oD bB oB bC oC lz bz cz dv) (hW : Below W0.heap.size W0 w) (F : Fresh w (.slice ad2 nd nd) nd r pg B) (hL : w.heap[bl]? = some (.cells xl 73 (0, 0))) (hlB : bl < B) (O : OldL w po B) (br : (r.length : Int) ≤ 2097152) (sub : ∀ x ∈ r, x ∈ lz ∨ x ∈ cz) (asr : Asc r) (V : Vls w ad2 nd gd 0 dv) (hn : ad2 = none ↔ ad = none) :
    Code.wp Try.prog (dropSeq 16 (Try.f7.body.getD .skip)) (bodyPost Try.prog Try.f7 fun e w' => e = .returned (.bool true) ∧ Below W0.heap.size W0 w')
      ⟨List.toArray ((.slice al nl cl) :: (.slice ad nd cd) :: (.slice ab nb cb) :: (.bool hw) :: (.slice aw nw cw) :: (.slice ac nc cc) :: u6 :: u7 :: u8 :: u9 :: u10 :: u11 :: u12 :: (.pointer po) :: (.pointer (some ⟨bl, 0, none⟩)) :: (.pointer pg) :: u16 :: u17 :: u18 :: u19 :: u20 :: u21 :: (.int .i64 r.length) :: u23 :: u24 :: u25 :: u26 :: u27 :: u28 :: u29 :: u30 :: u31 :: u32 :: u33 :: u34 :: u35 :: u36 :: u37 :: u38 :: u39 :: u40 :: u41 :: u42 :: u43 :: u44 :: u45 :: u46 :: u47 :: u48 :: u49 :: u50 :: u51 :: u52 :: u53 :: u54 :: u55 :: u56 :: u57 :: u58 :: u59 :: u60 :: u61 :: u62 :: u63 :: u64 :: u65 :: u66 :: u67 :: u68 :: u69 :: u70 :: u71 :: u72 :: u73 :: u74 :: u75 :: u76 :: u77 :: u78 :: u79 :: u80 :: u81 :: u82 :: u83 :: u84 :: u85 :: u86 :: u87 :: u88 :: u89 :: u90 :: u91 :: u92 :: u93 :: u94 :: u95 :: u96 :: u97 :: u98 :: u99 :: u100 :: u101 :: u102 :: u103 :: u104 :: u105 :: u106 :: u107 :: u108 :: u109 :: u110 :: u111 :: u112 :: u113 :: u114 :: u115 :: u116 :: u117 :: u118 :: u119 :: u120 :: u121 :: u122 :: u123 :: u124 :: u125 :: u126 :: u127 :: u128 :: u129 :: u130 :: u131 :: u132 :: u133 :: u134 :: u135 :: u136 :: u137 :: u138 :: u139 :: u140 :: u141 :: u142 :: u143 :: u144 :: u145 :: u146 :: u147 :: u148 :: u149 :: u150 :: u151 :: u152 :: u153 :: u154 :: u155 :: u156 :: u157 :: u158 :: u159 :: u160 :: u161 :: u162 :: u163 :: u164 :: u165 :: u166 :: u167 :: u168 :: u169 :: u170 :: u171 :: u172 :: u173 :: u174 :: u175 :: u176 :: u177 :: u178 :: u179 :: u180 :: u181 :: u182 :: u183 :: u184 :: u185 :: u186 :: u187 :: u188 :: u189 :: u190 :: u191 :: u192 :: u193 :: u194 :: u195 :: u196 :: u197 :: u198 :: u199 :: u200 :: u201 :: u202 :: u203 :: u204 :: u205 :: u206 :: u207 :: u208 :: u209 :: u210 :: u211 :: u212 :: u213 :: u214 :: u215 :: u216 :: u217 :: u218 :: u219 :: u220 :: u221 :: u222 :: u223 :: u224 :: u225 :: u226 :: u227 :: u228 :: u229 :: u230 :: u231 :: u232 :: u233 :: u234 :: u235 :: u236 :: u237 :: u238 :: u239 :: u240 :: u241 :: u242 :: u243 :: u244 :: u245 :: u246 :: u247 :: u248 :: u249 :: u250 :: u251 :: u252 :: u253 :: u254 :: u255 :: u256 :: []), []⟩ w := by
  have HA : Hid _ := A
  obtain ⟨b1, b2, b3, b4⟩ := A.bnd
  have HS : Hid _ := sub
  have HAR : Hid (Asc r) := asr
  have HV : Hid (Vls w ad2 nd gd 0 dv) := V
  have HN : Hid _ := hn
  have HO : Hid (OldL w po B) := O
  have HL : Hid (w.heap[bl]? = some (.cells xl 73 (0, 0))) := hL
  rcases F with ⟨h1, rfl⟩ | ⟨h1, g, ar, cr, gr, rfl, hgB, G, R⟩
  · have h2 : (nd : Int) < 2 * (r.length : Int) := by omega
    clear A sub asr V hn hL O
    go_step
    refine wp_drop 16 _ (by kernel_rfl) (fun K hK => ?_)
    conv => arg 2; whnf
    go_wp2_with fail
    go_ret
    exact ⟨rfl, hW⟩
  · have h2 : ¬ (nd : Int) < 2 * (r.length : Int) := by omega
    have HG : Hid (w.heap[g]? = some (.cells #[.slice ar r.length cr, .slice ad2 nd nd, .slice none 0 0, .pointer none] 73 (0, 0))) := G
    have HR : Hid (Ints w ar r.length gr 0 r) := R
    clear A sub asr V hn hL O G R
    go_step
    refine wp_drop 16 _ (by kernel_rfl) (fun K hK => ?_)
    conv => arg 2; whnf
    go_wp2_with fail
    exact f7_tail17 HA.out hW HG.out HL.out hlB hgB HO.out HR.out br HS.out HAR.out HV.out HN.out

set_option maxRecDepth 100000 in
set_option maxHeartbeats 3200000 in
theorem f7_tail15 {u6 u7 u8 u9 u10 u11 u12 u16 u17 u18 u19 u21 u22 u23 u24 u25 u26 u27 u28 u29 u30 u31 u32 u33 u34 u35 u36 u37 u38 u39 u40 u41 u42 u43 u44 u45 u46 u47 u48 u49 u50 u51 u52 u53 u54 u55 u56 u57 u58 u59 u60 u61 u62 u63 u64 u65 u66 u67 u68 u69 u70 u71 u72 u73 u74 u75 u76 u77 u78 u79 u80 u81 u82 u83 u84 u85 u86 u87 u88 u89 u90 u91 u92 u93 u94 u95 u96 u97 u98 u99 u100 u101 u102 u103 u104 u105 u106 u107 u108 u109 u110 u111 u112 u113 u114 u115 u116 u117 u118 u119 u120 u121 u122 u123 u124 u125 u126 u127 u128 u129 u130 u131 u132 u133 u134 u135 u136 u137 u138 u139 u140 u141 u142 u143 u144 u145 u146 u147 u148 u149 u150 u151 u152 u153 u154 u155 u156 u157 u158 u159 u160 u161 u162 u163 u164 u165 u166 u167 u168 u169 u170 u171 u172 u173 u174 u175 u176 u177 u178 u179 u180 u181 u182 u183 u184 u185 u186 u187 u188 u189 u190 u191 u192 u193 u194 u195 u196 u197 u198 u199 u200 u201 u202 u203 u204 u205 u206 u207 u208 u209 u210 u211 u212 u213 u214 u215 u216 u217 u218 u219 u220 u221 u222 u223 u224 u225 u226 u227 u228 u229 u230 u231 u232 u233 u234 u235 u236 u237 u238 u239 u240 u241 u242 u243 u244 u245 u246 u247 u248 u249 u250 u251 u252 u253 u254 u255 u256 : Value} {W0 w : World} {al ad ab aw ac : Option Addr} {nl cl nd cd nb cb nw cw nc cc bL oL bD oD bB oB bC oC : Nat} {lz bz cz : List Int} {dv : List Vl} {hw : Bool} {ad2 : Option Addr} {r : List Int} {gd bl B : Nat} {po pg : Option Addr} {xl : Array Value} {c : Nat}
    (A : Arg W0 al ad ab ac nl nd nb nc bL oL bD oD bB oB bC oC lz bz cz dv) (hW : Below W0.heap.size W0 w) (F : Fresh w (.slice ad2 nd nd) nd r pg B) (hL : w.heap[bl]? = some (.cells xl 73 (0, 0))) (hlB : bl < B) (O : OldL w po B) (br : (r.length : Int) ≤ 2097152) (sub : ∀ x ∈ r, x ∈ lz ∨ x ∈ cz) (asr : Asc r) (V : Vls w ad2 nd gd 0 dv) (hn : ad2 = none ↔ ad = none) (hc : r.length + c = nl + nc) :
    Code.wp Try.prog (dropSeq 15 (Try.f7.body.getD .skip)) (bodyPost Try.prog Try.f7 fun e w' => e = .returned (.bool true) ∧ Below W0.heap.size W0 w')
      ⟨List.toArray ((.slice al nl cl) :: (.slice ad nd cd) :: (.slice ab nb cb) :: (.bool hw) :: (.slice aw nw cw) :: (.slice ac nc cc) :: u6 :: u7 :: u8 :: u9 :: u10 :: u11 :: u12 :: (.pointer po) :: (.pointer (some ⟨bl, 0, none⟩)) :: (.pointer pg) :: u16 :: u17 :: u18 :: u19 :: (.int .i64 c) :: u21 :: u22 :: u23 :: u24 :: u25 :: u26 :: u27 :: u28 :: u29 :: u30 :: u31 :: u32 :: u33 :: u34 :: u35 :: u36 :: u37 :: u38 :: u39 :: u40 :: u41 :: u42 :: u43 :: u44 :: u45 :: u46 :: u47 :: u48 :: u49 :: u50 :: u51 :: u52 :: u53 :: u54 :: u55 :: u56 :: u57 :: u58 :: u59 :: u60 :: u61 :: u62 :: u63 :: u64 :: u65 :: u66 :: u67 :: u68 :: u69 :: u70 :: u71 :: u72 :: u73 :: u74 :: u75 :: u76 :: u77 :: u78 :: u79 :: u80 :: u81 :: u82 :: u83 :: u84 :: u85 :: u86 :: u87 :: u88 :: u89 :: u90 :: u91 :: u92 :: u93 :: u94 :: u95 :: u96 :: u97 :: u98 :: u99 :: u100 :: u101 :: u102 :: u103 :: u104 :: u105 :: u106 :: u107 :: u108 :: u109 :: u110 :: u111 :: u112 :: u113 :: u114 :: u115 :: u116 :: u117 :: u118 :: u119 :: u120 :: u121 :: u122 :: u123 :: u124 :: u125 :: u126 :: u127 :: u128 :: u129 :: u130 :: u131 :: u132 :: u133 :: u134 :: u135 :: u136 :: u137 :: u138 :: u139 :: u140 :: u141 :: u142 :: u143 :: u144 :: u145 :: u146 :: u147 :: u148 :: u149 :: u150 :: u151 :: u152 :: u153 :: u154 :: u155 :: u156 :: u157 :: u158 :: u159 :: u160 :: u161 :: u162 :: u163 :: u164 :: u165 :: u166 :: u167 :: u168 :: u169 :: u170 :: u171 :: u172 :: u173 :: u174 :: u175 :: u176 :: u177 :: u178 :: u179 :: u180 :: u181 :: u182 :: u183 :: u184 :: u185 :: u186 :: u187 :: u188 :: u189 :: u190 :: u191 :: u192 :: u193 :: u194 :: u195 :: u196 :: u197 :: u198 :: u199 :: u200 :: u201 :: u202 :: u203 :: u204 :: u205 :: u206 :: u207 :: u208 :: u209 :: u210 :: u211 :: u212 :: u213 :: u214 :: u215 :: u216 :: u217 :: u218 :: u219 :: u220 :: u221 :: u222 :: u223 :: u224 :: u225 :: u226 :: u227 :: u228 :: u229 :: u230 :: u231 :: u232 :: u233 :: u234 :: u235 :: u236 :: u237 :: u238 :: u239 :: u240 :: u241 :: u242 :: u243 :: u244 :: u245 :: u246 :: u247 :: u248 :: u249 :: u250 :: u251 :: u252 :: u253 :: u254 :: u255 :: u256 :: []), []⟩ w := by
  have HA : Hid _ := A
  obtain ⟨b1, b2, b3, b4⟩ := A.bnd
  have HS : Hid _ := sub
  have HAR : Hid (Asc r) := asr
  have HV : Hid (Vls w ad2 nd gd 0 dv) := V
  have HN : Hid _ := hn
  have HO : Hid (OldL w po B) := O
  have HF : Hid (Fresh w (.slice ad2 nd nd) nd r pg B) := F
  have HL : Hid (w.heap[bl]? = some (.cells xl 73 (0, 0))) := hL
  have hc1 : (nl : Int) + (nc : Int) - (c : Int) = (r.length : Int) := by omega
  have hc2 : (c : Int) ≤ 2097152 := by omega
  clear A sub asr V hn hL O F
  go_step
  refine wp_drop 15 _ (by kernel_rfl) (fun K hK => ?_)
  conv => arg 2; whnf
  go_wp2_with fail
  exact f7_tail16 HA.out hW HF.out HL.out hlB HO.out br HS.out HAR.out HV.out HN.out

end Go.Proofs.Qxb6601655a
