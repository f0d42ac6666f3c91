import Derived.Test.Qxb6601655aF3
namespace Go.Proofs.Qxb6601655a
set_option linter.unusedSimpArgs false
set_option linter.unusedVariables false
open Go.RowKit
attribute [local go_sem] Try.eq45 Try.eq46 Try.eq53 Try.ne45 Try.eq50_same Try.ne50_same


theorem sameInts_eq {a a' : Option Addr} {n c b o n' c' b' o' : Nat} {xs ys : List Int} {w : World} (hn : (n : Int) ≤ 4194304) (hn' : (n' : Int) ≤ 4194304) (I : Ints w a n b o xs) (I' : Ints w a' n' b' o' ys) (h : xs = ys) :
    Calls Try.prog 27 #[.slice a n c, .slice a' n' c'] w fun e w' => e = .returned (.bool true) ∧ Below w.heap.size w w' := by
  refine (sameInts_any a n c b o xs a' n' c' b' o' ys w hn hn' I I').mono ?_
  rintro e w' ⟨r, rfl, hr, hb⟩
  obtain rfl := hr.2 h
  exact ⟨rfl, hb⟩

/-- What the law knows behind widen: the memo's answer, or a layout made anew. -/
def Outc (w : World) (ab ac : Option Addr) (lz bz cz : List Int) (nb nc nd : Nat) (a2 : Option Addr) (n2 c2 g2 : Nat) (po pg p2 : Option Addr) (vd : Value) (B : Nat) : Prop :=
  (∃ sb s2, ab = some sb ∧ bz = cz ∧ pg = po ∧ p2 = po ∧ a2 = some s2 ∧ n2 = nb ∧ c2 = nb ∧ Ints w a2 nb g2 0 bz) ∨
  ((ab = none ∨ bz ≠ cz) ∧ p2 = pg ∧ n2 = nc ∧ c2 = nc ∧ (a2 = none ↔ ac = none) ∧ Ints w a2 nc g2 0 cz ∧ ∃ r, Asc r ∧ (∀ x ∈ r, x ∈ lz ∨ x ∈ cz) ∧ r.length + common lz cz = lz.length + cz.length ∧ Fresh w vd nd r pg B)

theorem Outc.below {w w' : World} {ab ac : Option Addr} {lz bz cz : List Int} {nb nc nd : Nat} {a2 : Option Addr} {n2 c2 g2 : Nat} {po pg p2 : Option Addr} {vd : Value} {B : Nat} (h : Outc w ab ac lz bz cz nb nc nd a2 n2 c2 g2 po pg p2 vd B) (hb : Below w.heap.size w w') : Outc w' ab ac lz bz cz nb nc nd a2 n2 c2 g2 po pg p2 vd B := by
  rcases h with ⟨sb, s2, h1, h2, h3, h4, h5, h6, h7, h8⟩ | ⟨h1, h2, h3, h4, h5, h6, r, h7, h8, h9, h10⟩
  · exact .inl ⟨sb, s2, h1, h2, h3, h4, h5, h6, h7, h8.below hb⟩
  · exact .inr ⟨h1, h2, h3, h4, h5, h6.below hb, r, h7, h8, h9, h10.below hb⟩

set_option maxRecDepth 100000 in
set_option maxHeartbeats 1000000 in
theorem f7_tail11 {u6 u7 u8 u9 u10 u11 u12 u16 u17 u20 u21 u22 u23 u24 u25 u26 u27 u28 u29 u30 u31 u32 u33 u34 u35 u36 u37 u38 u39 u40 u41 u42 u43 u44 u45 u46 u47 u48 u49 u50 u51 u52 u53 u54 u55 u56 u57 u58 u59 u60 u61 u62 u63 u64 u65 u66 u67 u68 u69 u70 u71 u72 u73 u74 u75 u76 u77 u78 u79 u80 u81 u82 u83 u84 u85 u86 u87 u88 u89 u90 u91 u92 u93 u94 u95 u96 u97 u98 u99 u100 u101 u102 u103 u104 u105 u106 u107 u108 u109 u110 u111 u112 u113 u114 u115 u116 u117 u118 u119 u120 u121 u122 u123 u124 u125 u126 u127 u128 u129 u130 u131 u132 u133 u134 u135 u136 u137 u138 u139 u140 u141 u142 u143 u144 u145 u146 u147 u148 u149 u150 u151 u152 u153 u154 u155 u156 u157 u158 u159 u160 u161 u162 u163 u164 u165 u166 u167 u168 u169 u170 u171 u172 u173 u174 u175 u176 u177 u178 u179 u180 u181 u182 u183 u184 u185 u186 u187 u188 u189 u190 u191 u192 u193 u194 u195 u196 u197 u198 u199 u200 u201 u202 u203 u204 u205 u206 u207 u208 u209 u210 u211 u212 u213 u214 u215 u216 u217 u218 u219 u220 u221 u222 u223 u224 u225 u226 u227 u228 u229 u230 u231 u232 u233 u234 u235 u236 u237 u238 u239 u240 u241 u242 u243 u244 u245 u246 u247 u248 u249 u250 u251 u252 u253 u254 u255 u256 : Value} {W0 w : World} {al ad ab aw ac : Option Addr} {nl cl nd cd nb cb nw cw nc cc bL oL bD oD bB oB bC oC : Nat} {lz bz cz : List Int} {dv : List Vl} {hw : Bool} {ad2 a2 po pg p2 : Option Addr} {gd bl B n2 c2 g2 : Nat} {xl : Array Value}
    (A : Arg W0 al ad ab ac nl nd nb nc bL oL bD oD bB oB bC oC lz bz cz dv) (hW : Below W0.heap.size W0 w) (U : Outc w ab ac lz bz cz nb nc nd a2 n2 c2 g2 po pg p2 (.slice ad2 nd nd) B) (hL : w.heap[bl]? = some (.cells xl 73 (0, 0))) (hlB : bl < B) (O : OldL w po B) (V : Vls w ad2 nd gd 0 dv) (hn : ad2 = none ↔ ad = none) :
    Code.wp Try.prog (dropSeq 11 (Try.f7.body.getD .skip)) (bodyPost Try.prog Try.f7 fun e w' => e = .returned (.bool true) ∧ Below W0.heap.size W0 w')
      ⟨List.toArray ((.slice al nl cl) :: (.slice ad nd cd) :: (.slice ab nb cb) :: (.bool hw) :: (.slice aw nw cw) :: (.slice ac nc cc) :: u6 :: u7 :: u8 :: u9 :: u10 :: u11 :: u12 :: (.pointer po) :: (.pointer (some ⟨bl, 0, none⟩)) :: (.pointer pg) :: u16 :: u17 :: (.slice a2 n2 c2) :: (.pointer p2) :: u20 :: u21 :: u22 :: u23 :: u24 :: u25 :: u26 :: u27 :: u28 :: u29 :: u30 :: u31 :: u32 :: u33 :: u34 :: u35 :: u36 :: u37 :: u38 :: u39 :: u40 :: u41 :: u42 :: u43 :: u44 :: u45 :: u46 :: u47 :: u48 :: u49 :: u50 :: u51 :: u52 :: u53 :: u54 :: u55 :: u56 :: u57 :: u58 :: u59 :: u60 :: u61 :: u62 :: u63 :: u64 :: u65 :: u66 :: u67 :: u68 :: u69 :: u70 :: u71 :: u72 :: u73 :: u74 :: u75 :: u76 :: u77 :: u78 :: u79 :: u80 :: u81 :: u82 :: u83 :: u84 :: u85 :: u86 :: u87 :: u88 :: u89 :: u90 :: u91 :: u92 :: u93 :: u94 :: u95 :: u96 :: u97 :: u98 :: u99 :: u100 :: u101 :: u102 :: u103 :: u104 :: u105 :: u106 :: u107 :: u108 :: u109 :: u110 :: u111 :: u112 :: u113 :: u114 :: u115 :: u116 :: u117 :: u118 :: u119 :: u120 :: u121 :: u122 :: u123 :: u124 :: u125 :: u126 :: u127 :: u128 :: u129 :: u130 :: u131 :: u132 :: u133 :: u134 :: u135 :: u136 :: u137 :: u138 :: u139 :: u140 :: u141 :: u142 :: u143 :: u144 :: u145 :: u146 :: u147 :: u148 :: u149 :: u150 :: u151 :: u152 :: u153 :: u154 :: u155 :: u156 :: u157 :: u158 :: u159 :: u160 :: u161 :: u162 :: u163 :: u164 :: u165 :: u166 :: u167 :: u168 :: u169 :: u170 :: u171 :: u172 :: u173 :: u174 :: u175 :: u176 :: u177 :: u178 :: u179 :: u180 :: u181 :: u182 :: u183 :: u184 :: u185 :: u186 :: u187 :: u188 :: u189 :: u190 :: u191 :: u192 :: u193 :: u194 :: u195 :: u196 :: u197 :: u198 :: u199 :: u200 :: u201 :: u202 :: u203 :: u204 :: u205 :: u206 :: u207 :: u208 :: u209 :: u210 :: u211 :: u212 :: u213 :: u214 :: u215 :: u216 :: u217 :: u218 :: u219 :: u220 :: u221 :: u222 :: u223 :: u224 :: u225 :: u226 :: u227 :: u228 :: u229 :: u230 :: u231 :: u232 :: u233 :: u234 :: u235 :: u236 :: u237 :: u238 :: u239 :: u240 :: u241 :: u242 :: u243 :: u244 :: u245 :: u246 :: u247 :: u248 :: u249 :: u250 :: u251 :: u252 :: u253 :: u254 :: u255 :: u256 :: []), []⟩ w := by
  have HA : Hid _ := A
  obtain ⟨b1, b2, b3, b4⟩ := A.bnd
  have HV : Hid (Vls w ad2 nd gd 0 dv) := V
  have HN : Hid _ := hn
  have HO : Hid (OldL w po B) := O
  have HL : Hid (w.heap[bl]? = some (.cells xl 73 (0, 0))) := hL
  have HIB : Hid (Ints w ab nb bB oB bz) := A.ib.below hW
  have HIC : Hid (Ints w ac nc bC oC cz) := A.ic.below hW
  rcases U with ⟨sb, s2, rfl, heq, rfl, rfl, rfl, rfl, rfl, I2⟩ | ⟨hor, rfl, rfl, rfl, hn2, I2, r, asr, sub, len, F⟩
  · have HE : Hid _ := heq
    have HI2 : Hid (Ints w (some s2) _ g2 0 bz) := I2
    clear A V hn O hL heq I2
    go_step
    refine wp_drop 11 _ (by kernel_rfl) (fun K hK => ?_)
    conv => arg 2; whnf
    go_wp2_with (first | (have HQ := HBX; go_at_call 27; go_must (refine (sameInts_yes (by omega) (Ints.below HI2.out HBX.out) (Ints.below HIB.out HBX.out)).mono ?_); rintro e wy ⟨rfl, hby⟩; have HBY : Hid _ := hby; clear hby HQ) | (go_at_call 27; go_must (refine (sameInts_eq (by omega) (by omega) HIB.out HIC.out HE.out).mono ?_); rintro e wx ⟨rfl, hbx⟩; have HBX : Hid _ := hbx; clear hbx))
    go_ret
    have hxy := HBX.out.trans (HBY.out.mono HBX.out.size)
    exact ⟨rfl, hW.trans (hxy.mono hW.size)⟩
  · have br : (r.length : Int) ≤ 2097152 := by
      have e1 := A.il.len
      have e2 := A.ic.len
      omega
    have HS : Hid _ := sub
    have HAR : Hid (Asc r) := asr
    have HF : Hid (Fresh w (.slice ad2 nd nd) nd r _ B) := F
    have HI2 : Hid (Ints w a2 _ g2 0 cz) := I2
    have HN2 : Hid _ := hn2
    have HC : Hid _ := len
    have HOR : Hid _ := hor
    clear A V hn O hL hor hn2 I2 asr sub len F
    cases ab with
    | none =>
      go_step
      refine wp_drop 11 _ (by kernel_rfl) (fun K hK => ?_)
      conv => arg 2; whnf
      go_wp2_with fail
      exact f7_tail12 HA.out hW HF.out HL.out hlB HO.out br HS.out HAR.out HV.out HN.out HC.out HI2.out HN2.out
    | some sb =>
      have hne : Hid (bz ≠ cz) := HOR.out.resolve_left (by simp)
      go_step
      refine wp_drop 11 _ (by kernel_rfl) (fun K hK => ?_)
      conv => arg 2; whnf
      go_wp2_with (go_at_call 27; go_must (refine (sameInts_no (by omega) (by omega) HIB.out HIC.out hne.out).mono ?_); rintro e wx ⟨rfl, hbx⟩; have HBX : Hid _ := hbx; clear hbx)
      exact f7_tail12 HA.out (hW.trans (HBX.out.mono hW.size)) (Fresh.below HF.out HBX.out) (block_later HL.out HBX.out) hlB (OldL.below HO.out HBX.out) br HS.out HAR.out (Vls.below HV.out HBX.out) HN.out HC.out (Ints.below HI2.out HBX.out) HN2.out

set_option maxRecDepth 100000 in
set_option maxHeartbeats 1000000 in
theorem f7_tail10 {u6 u7 u8 u9 u10 u11 u12 u20 u21 u22 u23 u24 u25 u26 u27 u28 u29 u30 u31 u32 u33 u34 u35 u36 u37 u38 u39 u40 u41 u42 u43 u44 u45 u46 u47 u48 u49 u50 u51 u52 u53 u54 u55 u56 u57 u58 u59 u60 u61 u62 u63 u64 u65 u66 u67 u68 u69 u70 u71 u72 u73 u74 u75 u76 u77 u78 u79 u80 u81 u82 u83 u84 u85 u86 u87 u88 u89 u90 u91 u92 u93 u94 u95 u96 u97 u98 u99 u100 u101 u102 u103 u104 u105 u106 u107 u108 u109 u110 u111 u112 u113 u114 u115 u116 u117 u118 u119 u120 u121 u122 u123 u124 u125 u126 u127 u128 u129 u130 u131 u132 u133 u134 u135 u136 u137 u138 u139 u140 u141 u142 u143 u144 u145 u146 u147 u148 u149 u150 u151 u152 u153 u154 u155 u156 u157 u158 u159 u160 u161 u162 u163 u164 u165 u166 u167 u168 u169 u170 u171 u172 u173 u174 u175 u176 u177 u178 u179 u180 u181 u182 u183 u184 u185 u186 u187 u188 u189 u190 u191 u192 u193 u194 u195 u196 u197 u198 u199 u200 u201 u202 u203 u204 u205 u206 u207 u208 u209 u210 u211 u212 u213 u214 u215 u216 u217 u218 u219 u220 u221 u222 u223 u224 u225 u226 u227 u228 u229 u230 u231 u232 u233 u234 u235 u236 u237 u238 u239 u240 u241 u242 u243 u244 u245 u246 u247 u248 u249 u250 u251 u252 u253 u254 u255 u256 : Value} {W0 w : World} {al ad ab aw ac : Option Addr} {nl cl nd cd nb cb nw cw nc cc bL oL bD oD bB oB bC oC : Nat} {lz bz cz : List Int} {dv : List Vl} {hw : Bool} {ad2 a2 po pg p2 : Option Addr} {gd bl B n2 c2 g2 : Nat} {xl : Array Value} {al2 : Option Addr} {gl : Nat}
    (A : Arg W0 al ad ab ac nl nd nb nc bL oL bD oD bB oB bC oC lz bz cz dv) (hW : Below W0.heap.size W0 w) (U : Outc w ab ac lz bz cz nb nc nd a2 n2 c2 g2 po pg p2 (.slice ad2 nd nd) B) (hL : w.heap[bl]? = some (.cells xl 73 (0, 0))) (hlB : bl < B) (O : OldL w po B) (V : Vls w ad2 nd gd 0 dv) (hn : ad2 = none ↔ ad = none) (I : Ints w al2 nl gl 0 lz) (hnl : al2 = none ↔ al = none) :
    Code.wp Try.prog (dropSeq 10 (Try.f7.body.getD .skip)) (bodyPost Try.prog Try.f7 fun e w' => e = .returned (.bool true) ∧ Below W0.heap.size W0 w')
      ⟨List.toArray ((.slice al nl cl) :: (.slice ad nd cd) :: (.slice ab nb cb) :: (.bool hw) :: (.slice aw nw cw) :: (.slice ac nc cc) :: u6 :: u7 :: u8 :: u9 :: u10 :: u11 :: u12 :: (.pointer po) :: (.pointer (some ⟨bl, 0, none⟩)) :: (.pointer pg) :: (.slice al2 nl nl) :: (.slice ad2 nd nd) :: (.slice a2 n2 c2) :: (.pointer p2) :: u20 :: u21 :: u22 :: u23 :: u24 :: u25 :: u26 :: u27 :: u28 :: u29 :: u30 :: u31 :: u32 :: u33 :: u34 :: u35 :: u36 :: u37 :: u38 :: u39 :: u40 :: u41 :: u42 :: u43 :: u44 :: u45 :: u46 :: u47 :: u48 :: u49 :: u50 :: u51 :: u52 :: u53 :: u54 :: u55 :: u56 :: u57 :: u58 :: u59 :: u60 :: u61 :: u62 :: u63 :: u64 :: u65 :: u66 :: u67 :: u68 :: u69 :: u70 :: u71 :: u72 :: u73 :: u74 :: u75 :: u76 :: u77 :: u78 :: u79 :: u80 :: u81 :: u82 :: u83 :: u84 :: u85 :: u86 :: u87 :: u88 :: u89 :: u90 :: u91 :: u92 :: u93 :: u94 :: u95 :: u96 :: u97 :: u98 :: u99 :: u100 :: u101 :: u102 :: u103 :: u104 :: u105 :: u106 :: u107 :: u108 :: u109 :: u110 :: u111 :: u112 :: u113 :: u114 :: u115 :: u116 :: u117 :: u118 :: u119 :: u120 :: u121 :: u122 :: u123 :: u124 :: u125 :: u126 :: u127 :: u128 :: u129 :: u130 :: u131 :: u132 :: u133 :: u134 :: u135 :: u136 :: u137 :: u138 :: u139 :: u140 :: u141 :: u142 :: u143 :: u144 :: u145 :: u146 :: u147 :: u148 :: u149 :: u150 :: u151 :: u152 :: u153 :: u154 :: u155 :: u156 :: u157 :: u158 :: u159 :: u160 :: u161 :: u162 :: u163 :: u164 :: u165 :: u166 :: u167 :: u168 :: u169 :: u170 :: u171 :: u172 :: u173 :: u174 :: u175 :: u176 :: u177 :: u178 :: u179 :: u180 :: u181 :: u182 :: u183 :: u184 :: u185 :: u186 :: u187 :: u188 :: u189 :: u190 :: u191 :: u192 :: u193 :: u194 :: u195 :: u196 :: u197 :: u198 :: u199 :: u200 :: u201 :: u202 :: u203 :: u204 :: u205 :: u206 :: u207 :: u208 :: u209 :: u210 :: u211 :: u212 :: u213 :: u214 :: u215 :: u216 :: u217 :: u218 :: u219 :: u220 :: u221 :: u222 :: u223 :: u224 :: u225 :: u226 :: u227 :: u228 :: u229 :: u230 :: u231 :: u232 :: u233 :: u234 :: u235 :: u236 :: u237 :: u238 :: u239 :: u240 :: u241 :: u242 :: u243 :: u244 :: u245 :: u246 :: u247 :: u248 :: u249 :: u250 :: u251 :: u252 :: u253 :: u254 :: u255 :: u256 :: []), []⟩ w := by
  have HA : Hid _ := A
  obtain ⟨b1, b2, b3, b4⟩ := A.bnd
  have HV : Hid (Vls w ad2 nd gd 0 dv) := V
  have HN : Hid _ := hn
  have HO : Hid (OldL w po B) := O
  have HL : Hid (w.heap[bl]? = some (.cells xl 73 (0, 0))) := hL
  have HIL : Hid (Ints w al nl bL oL lz) := A.il.below hW
  have HVD : Hid (Vls w ad nd bD oD dv) := A.vd.below hW
  have HI : Hid (Ints w al2 nl gl 0 lz) := I
  have HU : Hid (Outc w ab ac lz bz cz nb nc nd a2 n2 c2 g2 po pg p2 (.slice ad2 nd nd) B) := U
  have hiso : al2.isNone = al.isNone := by cases al2 <;> cases al <;> simp_all
  clear A V hn O hL I U hnl
  go_step
  refine wp_drop 10 _ (by kernel_rfl) (fun K hK => ?_)
  conv => arg 2; whnf
  go_wp2_with (first | (go_at_call 27; go_must (refine (sameInts_yes (by omega) HI.out HIL.out).mono ?_); rintro e wx ⟨rfl, hbx⟩; have HBX : Hid _ := hbx; clear hbx) | (go_at_call 28; go_must (refine (sameValues_any _ _ _ _ _ _ _ _ _ _ _ (by omega) (Vls.below HV.out HBX.out) (Vls.below HVD.out HBX.out) HN.out).mono ?_); rintro e wy ⟨rfl, hby⟩; have HBY : Hid _ := hby; clear hby))
  have hxy := HBX.out.trans (HBY.out.mono HBX.out.size)
  exact f7_tail11 HA.out (hW.trans (hxy.mono hW.size)) (Outc.below HU.out hxy) (block_later HL.out hxy) hlB (OldL.below HO.out hxy) (Vls.below HV.out hxy) HN.out

set_option maxRecDepth 100000 in
set_option maxHeartbeats 1000000 in
theorem f7_tail9 {u6 u7 u8 u9 u10 u11 u12 u16 u17 u18 u19 u20 u21 u22 u23 u24 u25 u26 u27 u28 u29 u30 u31 u32 u33 u34 u35 u36 u37 u38 u39 u40 u41 u42 u43 u44 u45 u46 u47 u48 u49 u50 u51 u52 u53 u54 u55 u56 u57 u58 u59 u60 u61 u62 u63 u64 u65 u66 u67 u68 u69 u70 u71 u72 u73 u74 u75 u76 u77 u78 u79 u80 u81 u82 u83 u84 u85 u86 u87 u88 u89 u90 u91 u92 u93 u94 u95 u96 u97 u98 u99 u100 u101 u102 u103 u104 u105 u106 u107 u108 u109 u110 u111 u112 u113 u114 u115 u116 u117 u118 u119 u120 u121 u122 u123 u124 u125 u126 u127 u128 u129 u130 u131 u132 u133 u134 u135 u136 u137 u138 u139 u140 u141 u142 u143 u144 u145 u146 u147 u148 u149 u150 u151 u152 u153 u154 u155 u156 u157 u158 u159 u160 u161 u162 u163 u164 u165 u166 u167 u168 u169 u170 u171 u172 u173 u174 u175 u176 u177 u178 u179 u180 u181 u182 u183 u184 u185 u186 u187 u188 u189 u190 u191 u192 u193 u194 u195 u196 u197 u198 u199 u200 u201 u202 u203 u204 u205 u206 u207 u208 u209 u210 u211 u212 u213 u214 u215 u216 u217 u218 u219 u220 u221 u222 u223 u224 u225 u226 u227 u228 u229 u230 u231 u232 u233 u234 u235 u236 u237 u238 u239 u240 u241 u242 u243 u244 u245 u246 u247 u248 u249 u250 u251 u252 u253 u254 u255 u256 : Value} {W0 w : World} {al ad ab aw ac : Option Addr} {nl cl nd cd nb cb nw cw nc cc bL oL bD oD bB oB bC oC : Nat} {lz bz cz : List Int} {dv : List Vl} {hw : Bool} {ad2 a2 po pg p2 : Option Addr} {gd bl B n2 c2 g2 : Nat} {al2 : Option Addr} {gl : Nat}
    (A : Arg W0 al ad ab ac nl nd nb nc bL oL bD oD bB oB bC oC lz bz cz dv) (hW : Below W0.heap.size W0 w) (U : Outc w ab ac lz bz cz nb nc nd a2 n2 c2 g2 po pg p2 (.slice ad2 nd nd) B) (L : w.heap[bl]? = some (.cells #[.slice al2 nl nl, .slice ad2 nd nd, .slice a2 n2 c2, .pointer p2] 73 (0, 0))) (hlB : bl < B) (O : OldL w po B) (V : Vls w ad2 nd gd 0 dv) (hn : ad2 = none ↔ ad = none) (I : Ints w al2 nl gl 0 lz) (hnl : al2 = none ↔ al = none) :
    Code.wp Try.prog (dropSeq 9 (Try.f7.body.getD .skip)) (bodyPost Try.prog Try.f7 fun e w' => e = .returned (.bool true) ∧ Below W0.heap.size W0 w')
      ⟨List.toArray ((.slice al nl cl) :: (.slice ad nd cd) :: (.slice ab nb cb) :: (.bool hw) :: (.slice aw nw cw) :: (.slice ac nc cc) :: u6 :: u7 :: u8 :: u9 :: u10 :: u11 :: u12 :: (.pointer po) :: (.pointer (some ⟨bl, 0, none⟩)) :: (.pointer pg) :: u16 :: u17 :: u18 :: u19 :: u20 :: u21 :: u22 :: u23 :: u24 :: u25 :: u26 :: u27 :: u28 :: u29 :: u30 :: u31 :: u32 :: u33 :: u34 :: u35 :: u36 :: u37 :: u38 :: u39 :: u40 :: u41 :: u42 :: u43 :: u44 :: u45 :: u46 :: u47 :: u48 :: u49 :: u50 :: u51 :: u52 :: u53 :: u54 :: u55 :: u56 :: u57 :: u58 :: u59 :: u60 :: u61 :: u62 :: u63 :: u64 :: u65 :: u66 :: u67 :: u68 :: u69 :: u70 :: u71 :: u72 :: u73 :: u74 :: u75 :: u76 :: u77 :: u78 :: u79 :: u80 :: u81 :: u82 :: u83 :: u84 :: u85 :: u86 :: u87 :: u88 :: u89 :: u90 :: u91 :: u92 :: u93 :: u94 :: u95 :: u96 :: u97 :: u98 :: u99 :: u100 :: u101 :: u102 :: u103 :: u104 :: u105 :: u106 :: u107 :: u108 :: u109 :: u110 :: u111 :: u112 :: u113 :: u114 :: u115 :: u116 :: u117 :: u118 :: u119 :: u120 :: u121 :: u122 :: u123 :: u124 :: u125 :: u126 :: u127 :: u128 :: u129 :: u130 :: u131 :: u132 :: u133 :: u134 :: u135 :: u136 :: u137 :: u138 :: u139 :: u140 :: u141 :: u142 :: u143 :: u144 :: u145 :: u146 :: u147 :: u148 :: u149 :: u150 :: u151 :: u152 :: u153 :: u154 :: u155 :: u156 :: u157 :: u158 :: u159 :: u160 :: u161 :: u162 :: u163 :: u164 :: u165 :: u166 :: u167 :: u168 :: u169 :: u170 :: u171 :: u172 :: u173 :: u174 :: u175 :: u176 :: u177 :: u178 :: u179 :: u180 :: u181 :: u182 :: u183 :: u184 :: u185 :: u186 :: u187 :: u188 :: u189 :: u190 :: u191 :: u192 :: u193 :: u194 :: u195 :: u196 :: u197 :: u198 :: u199 :: u200 :: u201 :: u202 :: u203 :: u204 :: u205 :: u206 :: u207 :: u208 :: u209 :: u210 :: u211 :: u212 :: u213 :: u214 :: u215 :: u216 :: u217 :: u218 :: u219 :: u220 :: u221 :: u222 :: u223 :: u224 :: u225 :: u226 :: u227 :: u228 :: u229 :: u230 :: u231 :: u232 :: u233 :: u234 :: u235 :: u236 :: u237 :: u238 :: u239 :: u240 :: u241 :: u242 :: u243 :: u244 :: u245 :: u246 :: u247 :: u248 :: u249 :: u250 :: u251 :: u252 :: u253 :: u254 :: u255 :: u256 :: []), []⟩ w := by
  have HA : Hid _ := A
  obtain ⟨b1, b2, b3, b4⟩ := A.bnd
  have HV : Hid (Vls w ad2 nd gd 0 dv) := V
  have HN : Hid _ := hn
  have HO : Hid (OldL w po B) := O
  have HL : Hid (w.heap[bl]? = some (.cells #[.slice al2 nl nl, .slice ad2 nd nd, .slice a2 n2 c2, .pointer p2] 73 (0, 0))) := L
  have HI : Hid (Ints w al2 nl gl 0 lz) := I
  have HNL : Hid _ := hnl
  have HU : Hid (Outc w ab ac lz bz cz nb nc nd a2 n2 c2 g2 po pg p2 (.slice ad2 nd nd) B) := U
  clear A V hn O L I U hnl
  go_step
  refine wp_drop 9 _ (by kernel_rfl) (fun K hK => ?_)
  conv => arg 2; whnf
  go_wp2_with (go_at_call 26; go_must (refine (layoutFields_any _ _ _ _ _ _ _ _ _ _ _ _ HL.out).mono ?_); rintro e wx ⟨rfl, hbx⟩; have HBX : Hid _ := hbx; clear hbx)
  exact f7_tail10 HA.out (hW.trans (HBX.out.mono hW.size)) (Outc.below HU.out HBX.out) (block_later HL.out HBX.out) hlB (OldL.below HO.out HBX.out) (Vls.below HV.out HBX.out) HN.out (Ints.below HI.out HBX.out) HNL.out

end Go.Proofs.Qxb6601655a
