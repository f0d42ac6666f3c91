import Derived.Test.Qxb6601655aF2
namespace Go.Proofs.Qxb6601655a
set_option linter.unusedSimpArgs false
set_option linter.unusedVariables false
open Go.RowKit
attribute [local go_sem] Try.eq45 Try.eq46 Try.eq53 Try.ne45 Try.eq50_same Try.ne50_same


theorem count_snoc {l c : List Int} {k : Nat} (hk : k < c.length) : (c.take (k + 1)).countP (fun x => decide (x ∈ l)) = (c.take k).countP (fun x => decide (x ∈ l)) + (if ig c k ∈ l then 1 else 0) := by
  rw [take_snoc hk, List.countP_append, List.countP_singleton]
  by_cases h : ig c k ∈ l <;> simp [h]

set_option maxRecDepth 100000 in
set_option maxHeartbeats 3200000 in
theorem f7_tail14 {u6 u7 u8 u9 u10 u11 u12 u16 u17 u18 u19 u21 u22 u23 u24 u25 u26 u27 u28 u29 u30 u31 u32 u33 u34 u35 u36 u37 u38 u39 u40 u41 u42 u43 u44 u45 u46 u47 u48 u49 u50 u51 u52 u53 u54 u55 u56 u57 u58 u59 u60 u61 u62 u63 u64 u65 u66 u67 u68 u69 u70 u71 u72 u73 u74 u75 u76 u77 u78 u79 u80 u81 u82 u83 u84 u85 u86 u87 u88 u89 u90 u91 u92 u93 u94 u95 u96 u97 u98 u99 u100 u101 u102 u103 u104 u105 u106 u107 u108 u109 u110 u111 u112 u113 u114 u115 u116 u117 u118 u119 u120 u121 u122 u123 u124 u125 u126 u127 u128 u129 u130 u131 u132 u133 u134 u135 u136 u137 u138 u139 u140 u141 u142 u143 u144 u145 u146 u147 u148 u149 u150 u151 u152 u153 u154 u155 u156 u157 u158 u159 u160 u161 u162 u163 u164 u165 u166 u167 u168 u169 u170 u171 u172 u173 u174 u175 u176 u177 u178 u179 u180 u181 u182 u183 u184 u185 u186 u187 u188 u189 u190 u191 u192 u193 u194 u195 u196 u197 u198 u199 u200 u201 u202 u203 u204 u205 u206 u207 u208 u209 u210 u211 u212 u213 u214 u215 u216 u217 u218 u219 u220 u221 u222 u223 u224 u225 u226 u227 u228 u229 u230 u231 u232 u233 u234 u235 u236 u237 u238 u239 u240 u241 u242 u243 u244 u245 u246 u247 u248 u249 u250 u251 u252 u253 u254 u255 u256 : Value} {W0 w : World} {al ad ab aw ac : Option Addr} {nl cl nd cd nb cb nw cw nc cc bL oL bD oD bB oB bC oC : Nat} {lz bz cz : List Int} {dv : List Vl} {hw : Bool} {ad2 : Option Addr} {r : List Int} {gd bl B : Nat} {po pg : Option Addr} {xl : Array Value}
    (A : Arg W0 al ad ab ac nl nd nb nc bL oL bD oD bB oB bC oC lz bz cz dv) (hW : Below W0.heap.size W0 w) (F : Fresh w (.slice ad2 nd nd) nd r pg B) (hL : w.heap[bl]? = some (.cells xl 73 (0, 0))) (hlB : bl < B) (O : OldL w po B) (br : (r.length : Int) ≤ 2097152) (sub : ∀ x ∈ r, x ∈ lz ∨ x ∈ cz) (asr : Asc r) (V : Vls w ad2 nd gd 0 dv) (hn : ad2 = none ↔ ad = none) (len : r.length + common lz cz = lz.length + cz.length) :
    Code.wp Try.prog (dropSeq 14 (Try.f7.body.getD .skip)) (bodyPost Try.prog Try.f7 fun e w' => e = .returned (.bool true) ∧ Below W0.heap.size W0 w')
      ⟨List.toArray ((.slice al nl cl) :: (.slice ad nd cd) :: (.slice ab nb cb) :: (.bool hw) :: (.slice aw nw cw) :: (.slice ac nc cc) :: u6 :: u7 :: u8 :: u9 :: u10 :: u11 :: u12 :: (.pointer po) :: (.pointer (some ⟨bl, 0, none⟩)) :: (.pointer pg) :: u16 :: u17 :: u18 :: u19 :: (.int .i64 0) :: u21 :: u22 :: u23 :: u24 :: u25 :: u26 :: u27 :: u28 :: u29 :: u30 :: u31 :: u32 :: u33 :: u34 :: u35 :: u36 :: u37 :: u38 :: u39 :: u40 :: u41 :: u42 :: u43 :: u44 :: u45 :: u46 :: u47 :: u48 :: u49 :: u50 :: u51 :: u52 :: u53 :: u54 :: u55 :: u56 :: u57 :: u58 :: u59 :: u60 :: u61 :: u62 :: u63 :: u64 :: u65 :: u66 :: u67 :: u68 :: u69 :: u70 :: u71 :: u72 :: u73 :: u74 :: u75 :: u76 :: u77 :: u78 :: u79 :: u80 :: u81 :: u82 :: u83 :: u84 :: u85 :: u86 :: u87 :: u88 :: u89 :: u90 :: u91 :: u92 :: u93 :: u94 :: u95 :: u96 :: u97 :: u98 :: u99 :: u100 :: u101 :: u102 :: u103 :: u104 :: u105 :: u106 :: u107 :: u108 :: u109 :: u110 :: u111 :: u112 :: u113 :: u114 :: u115 :: u116 :: u117 :: u118 :: u119 :: u120 :: u121 :: u122 :: u123 :: u124 :: u125 :: u126 :: u127 :: u128 :: u129 :: u130 :: u131 :: u132 :: u133 :: u134 :: u135 :: u136 :: u137 :: u138 :: u139 :: u140 :: u141 :: u142 :: u143 :: u144 :: u145 :: u146 :: u147 :: u148 :: u149 :: u150 :: u151 :: u152 :: u153 :: u154 :: u155 :: u156 :: u157 :: u158 :: u159 :: u160 :: u161 :: u162 :: u163 :: u164 :: u165 :: u166 :: u167 :: u168 :: u169 :: u170 :: u171 :: u172 :: u173 :: u174 :: u175 :: u176 :: u177 :: u178 :: u179 :: u180 :: u181 :: u182 :: u183 :: u184 :: u185 :: u186 :: u187 :: u188 :: u189 :: u190 :: u191 :: u192 :: u193 :: u194 :: u195 :: u196 :: u197 :: u198 :: u199 :: u200 :: u201 :: u202 :: u203 :: u204 :: u205 :: u206 :: u207 :: u208 :: u209 :: u210 :: u211 :: u212 :: u213 :: u214 :: u215 :: u216 :: u217 :: u218 :: u219 :: u220 :: u221 :: u222 :: u223 :: u224 :: u225 :: u226 :: u227 :: u228 :: u229 :: u230 :: u231 :: u232 :: u233 :: u234 :: u235 :: u236 :: u237 :: u238 :: u239 :: u240 :: u241 :: u242 :: u243 :: u244 :: u245 :: u246 :: u247 :: u248 :: u249 :: u250 :: u251 :: u252 :: u253 :: u254 :: u255 :: u256 :: []), []⟩ w := by
  have HA : Hid _ := A
  obtain ⟨b1, b2, b3, b4⟩ := A.bnd
  have HS : Hid _ := sub
  have HAR : Hid (Asc r) := asr
  have HV : Hid (Vls w ad2 nd gd 0 dv) := V
  have HN : Hid _ := hn
  have HO : Hid (OldL w po B) := O
  have HF : Hid (Fresh w (.slice ad2 nd nd) nd r pg B) := F
  have HL : Hid (w.heap[bl]? = some (.cells xl 73 (0, 0))) := hL
  have HIL : Hid (Ints w al nl bL oL lz) := A.il.below hW
  have HIC : Hid (Ints w ac nc bC oC cz) := A.ic.below hW
  have HAL : Hid (Asc lz) := A.asl
  have hlc : Hid (cz.length = nc) := A.ic.len
  have hll : Hid (lz.length = nl) := A.il.len
  have HC : Hid _ := len
  clear A sub asr V hn hL O F len
  go_step
  refine wp_drop 14 _ (by kernel_rfl) (fun K hK => ?_)
  conv => arg 2; whnf
  go_wp2_with fail
  go_loop [20, 21] (fun t i => ∃ k m : Nat, k ≤ nc ∧ i = .int .i64 k ∧ t = .int .i64 m ∧ m ≤ k ∧ m = (cz.take k).countP (fun x => decide (x ∈ lz))) (fun _ i => nc - (intOf i).toNat)
  case atStart => exact ⟨0, 0, Nat.zero_le _, rfl, rfl, Nat.le_refl _, by simp⟩
  case round =>
    obtain ⟨k, m, hk, rfl, rfl, hmk, hm⟩ := hrel
    have HM : Hid _ := hm
    clear hm
    by_cases hlt : k < nc
    · have hx := HIC.out.cell k hlt
      obtain rfl := HIC.out.ad (by omega)
      have hcs := count_snoc (l := lz) (c := cz) (k := k) (by rw [hlc.out]; exact hlt)
      obtain ⟨x, hxe⟩ : ∃ x, x = ig cz k := ⟨_, rfl⟩
      rw [← hxe] at hx hcs
      clear hxe
      by_cases h1 : x ∈ lz
      · rw [if_pos h1] at hcs
        have H1 : Hid _ := h1
        have HCS : Hid _ := hcs
        clear h1 hcs
        go_wp2_with (go_at_call 29; go_must (refine (contains_in (by omega) HIL.out HAL.out H1.out).mono ?_); rintro e wx ⟨rfl, hwx⟩; subst hwx)
        go_round
        case rel => exact ⟨k + 1, m + 1, by omega, by go_num, by go_num, by omega, by rw [HCS.out, HM.out]⟩
        case measure => simp [intOf]; omega
      · rw [if_neg h1] at hcs
        have H1 : Hid _ := h1
        have HCS : Hid _ := hcs
        clear h1 hcs
        go_wp2_with (go_at_call 29; go_must (refine (contains_out (by omega) HIL.out HAL.out H1.out).mono ?_); rintro e wx ⟨rfl, hwx⟩; subst hwx)
        go_round
        case rel => exact ⟨k + 1, m, by omega, by go_num, rfl, by omega, by rw [HCS.out, HM.out, Nat.add_zero]⟩
        case measure => simp [intOf]; omega
    · obtain rfl : k = nc := by omega
      have hm2 : m = common lz cz := by
        rw [HM.out, List.take_of_length_le (by rw [hlc.out]; exact Nat.le_refl _)]
        rfl
      have hc : r.length + m = nl + k := by
        rw [hm2, HC.out, hll.out, hlc.out]
      clear hm2
      go_wp2_with fail
      exact f7_tail15 HA.out hW HF.out HL.out hlB HO.out br HS.out HAR.out HV.out HN.out hc

set_option maxRecDepth 100000 in
set_option maxHeartbeats 3200000 in
theorem f7_tail12 {u6 u7 u8 u9 u10 u11 u12 u16 u17 u20 u21 u22 u23 u24 u25 u26 u27 u28 u29 u30 u31 u32 u33 u34 u35 u36 u37 u38 u39 u40 u41 u42 u43 u44 u45 u46 u47 u48 u49 u50 u51 u52 u53 u54 u55 u56 u57 u58 u59 u60 u61 u62 u63 u64 u65 u66 u67 u68 u69 u70 u71 u72 u73 u74 u75 u76 u77 u78 u79 u80 u81 u82 u83 u84 u85 u86 u87 u88 u89 u90 u91 u92 u93 u94 u95 u96 u97 u98 u99 u100 u101 u102 u103 u104 u105 u106 u107 u108 u109 u110 u111 u112 u113 u114 u115 u116 u117 u118 u119 u120 u121 u122 u123 u124 u125 u126 u127 u128 u129 u130 u131 u132 u133 u134 u135 u136 u137 u138 u139 u140 u141 u142 u143 u144 u145 u146 u147 u148 u149 u150 u151 u152 u153 u154 u155 u156 u157 u158 u159 u160 u161 u162 u163 u164 u165 u166 u167 u168 u169 u170 u171 u172 u173 u174 u175 u176 u177 u178 u179 u180 u181 u182 u183 u184 u185 u186 u187 u188 u189 u190 u191 u192 u193 u194 u195 u196 u197 u198 u199 u200 u201 u202 u203 u204 u205 u206 u207 u208 u209 u210 u211 u212 u213 u214 u215 u216 u217 u218 u219 u220 u221 u222 u223 u224 u225 u226 u227 u228 u229 u230 u231 u232 u233 u234 u235 u236 u237 u238 u239 u240 u241 u242 u243 u244 u245 u246 u247 u248 u249 u250 u251 u252 u253 u254 u255 u256 : Value} {W0 w : World} {al ad ab aw ac : Option Addr} {nl cl nd cd nb cb nw cw nc cc bL oL bD oD bB oB bC oC : Nat} {lz bz cz : List Int} {dv : List Vl} {hw : Bool} {ad2 : Option Addr} {r : List Int} {gd bl B : Nat} {po pg : Option Addr} {xl : Array Value} {a2 : Option Addr} {g2 : Nat}
    (A : Arg W0 al ad ab ac nl nd nb nc bL oL bD oD bB oB bC oC lz bz cz dv) (hW : Below W0.heap.size W0 w) (F : Fresh w (.slice ad2 nd nd) nd r pg B) (hL : w.heap[bl]? = some (.cells xl 73 (0, 0))) (hlB : bl < B) (O : OldL w po B) (br : (r.length : Int) ≤ 2097152) (sub : ∀ x ∈ r, x ∈ lz ∨ x ∈ cz) (asr : Asc r) (V : Vls w ad2 nd gd 0 dv) (hn : ad2 = none ↔ ad = none) (len : r.length + common lz cz = lz.length + cz.length) (I2 : Ints w a2 nc g2 0 cz) (hn2 : a2 = none ↔ ac = none) :
    Code.wp Try.prog (dropSeq 12 (Try.f7.body.getD .skip)) (bodyPost Try.prog Try.f7 fun e w' => e = .returned (.bool true) ∧ Below W0.heap.size W0 w')
      ⟨List.toArray ((.slice al nl cl) :: (.slice ad nd cd) :: (.slice ab nb cb) :: (.bool hw) :: (.slice aw nw cw) :: (.slice ac nc cc) :: u6 :: u7 :: u8 :: u9 :: u10 :: u11 :: u12 :: (.pointer po) :: (.pointer (some ⟨bl, 0, none⟩)) :: (.pointer pg) :: u16 :: u17 :: (.slice a2 nc nc) :: (.pointer pg) :: u20 :: u21 :: u22 :: u23 :: u24 :: u25 :: u26 :: u27 :: u28 :: u29 :: u30 :: u31 :: u32 :: u33 :: u34 :: u35 :: u36 :: u37 :: u38 :: u39 :: u40 :: u41 :: u42 :: u43 :: u44 :: u45 :: u46 :: u47 :: u48 :: u49 :: u50 :: u51 :: u52 :: u53 :: u54 :: u55 :: u56 :: u57 :: u58 :: u59 :: u60 :: u61 :: u62 :: u63 :: u64 :: u65 :: u66 :: u67 :: u68 :: u69 :: u70 :: u71 :: u72 :: u73 :: u74 :: u75 :: u76 :: u77 :: u78 :: u79 :: u80 :: u81 :: u82 :: u83 :: u84 :: u85 :: u86 :: u87 :: u88 :: u89 :: u90 :: u91 :: u92 :: u93 :: u94 :: u95 :: u96 :: u97 :: u98 :: u99 :: u100 :: u101 :: u102 :: u103 :: u104 :: u105 :: u106 :: u107 :: u108 :: u109 :: u110 :: u111 :: u112 :: u113 :: u114 :: u115 :: u116 :: u117 :: u118 :: u119 :: u120 :: u121 :: u122 :: u123 :: u124 :: u125 :: u126 :: u127 :: u128 :: u129 :: u130 :: u131 :: u132 :: u133 :: u134 :: u135 :: u136 :: u137 :: u138 :: u139 :: u140 :: u141 :: u142 :: u143 :: u144 :: u145 :: u146 :: u147 :: u148 :: u149 :: u150 :: u151 :: u152 :: u153 :: u154 :: u155 :: u156 :: u157 :: u158 :: u159 :: u160 :: u161 :: u162 :: u163 :: u164 :: u165 :: u166 :: u167 :: u168 :: u169 :: u170 :: u171 :: u172 :: u173 :: u174 :: u175 :: u176 :: u177 :: u178 :: u179 :: u180 :: u181 :: u182 :: u183 :: u184 :: u185 :: u186 :: u187 :: u188 :: u189 :: u190 :: u191 :: u192 :: u193 :: u194 :: u195 :: u196 :: u197 :: u198 :: u199 :: u200 :: u201 :: u202 :: u203 :: u204 :: u205 :: u206 :: u207 :: u208 :: u209 :: u210 :: u211 :: u212 :: u213 :: u214 :: u215 :: u216 :: u217 :: u218 :: u219 :: u220 :: u221 :: u222 :: u223 :: u224 :: u225 :: u226 :: u227 :: u228 :: u229 :: u230 :: u231 :: u232 :: u233 :: u234 :: u235 :: u236 :: u237 :: u238 :: u239 :: u240 :: u241 :: u242 :: u243 :: u244 :: u245 :: u246 :: u247 :: u248 :: u249 :: u250 :: u251 :: u252 :: u253 :: u254 :: u255 :: u256 :: []), []⟩ w := by
  have HA : Hid _ := A
  obtain ⟨b1, b2, b3, b4⟩ := A.bnd
  have HS : Hid _ := sub
  have HAR : Hid (Asc r) := asr
  have HV : Hid (Vls w ad2 nd gd 0 dv) := V
  have HN : Hid _ := hn
  have HO : Hid (OldL w po B) := O
  have HF : Hid (Fresh w (.slice ad2 nd nd) nd r pg B) := F
  have HL : Hid (w.heap[bl]? = some (.cells xl 73 (0, 0))) := hL
  have HIC : Hid (Ints w ac nc bC oC cz) := A.ic.below hW
  have HI2 : Hid (Ints w a2 nc g2 0 cz) := I2
  have HC : Hid _ := len
  have hiso : a2.isNone = ac.isNone := by cases a2 <;> cases ac <;> simp_all
  clear A sub asr V hn hL O F len I2 hn2
  go_step
  refine wp_drop 12 _ (by kernel_rfl) (fun K hK => ?_)
  conv => arg 2; whnf
  go_wp2_with (go_at_call 27; go_must (refine (sameInts_yes (by omega) HI2.out HIC.out).mono ?_); rintro e wx ⟨rfl, hbx⟩; have HBX : Hid _ := hbx; clear hbx)
  refine wp_drop 13 _ (by kernel_rfl) (fun K hK => ?_)
  conv => arg 2; whnf
  go_wp2_with fail
  exact f7_tail14 HA.out (hW.trans (HBX.out.mono hW.size)) (Fresh.below HF.out HBX.out) (block_later HL.out HBX.out) hlB (OldL.below HO.out HBX.out) br HS.out HAR.out (Vls.below HV.out HBX.out) HN.out HC.out

end Go.Proofs.Qxb6601655a
