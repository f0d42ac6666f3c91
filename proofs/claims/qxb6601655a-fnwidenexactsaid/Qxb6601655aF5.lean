import Derived.Test.Qxb6601655aF4
namespace Go.Proofs.Qxb6601655a
set_option linter.unusedSimpArgs false
set_option linter.unusedVariables false
open Go.RowKit
attribute [local go_sem] Try.eq45 Try.eq46 Try.eq53 Try.ne45 Try.eq50_same Try.ne50_same


theorem zzWiden_memo {bl nl cl nd cd nb cb nw cw bb ob bw ow : Nat} {ac ad aw p0 : Option Addr} {sb : Addr} {bz cz : List Int} {w : World}
    (L : w.heap[bl]? = some (.cells #[.slice ac nl cl, .slice ad nd cd, .slice (some sb) nb cb, .pointer p0] 73 (0, 0)))
    (B : Ints w (some sb) nb bb ob bz) (J : Ints w aw nw bw ow cz) (bn : (nb : Int) ≤ 1048576) (bm : (nw : Int) ≤ 1048576) (he : bz = cz) :
    Calls Try.prog 25 #[.pointer (some ⟨bl, 0, none⟩), .slice aw nw cw] w fun e w' => e = .returned (.pointer p0) ∧ w' = w := by
  have HL : Hid (w.heap[bl]? = some (.cells #[.slice ac nl cl, .slice ad nd cd, .slice (some sb) nb cb, .pointer p0] 73 (0, 0))) := L
  have HB : Hid (Ints w (some sb) nb bb ob bz) := B
  have HJ : Hid (Ints w aw nw bw ow cz) := J
  have HE : Hid _ := he
  clear L B J he
  go_enter Try.func25, Try.ntmps25
  go_wp2_with (go_at_call 41; go_must (refine (widen_memo HL.out HB.out HJ.out bn bm HE.out).mono ?_); rintro e wx ⟨rfl, hwx⟩; subst hwx)
  go_ret
  exact ⟨rfl, rfl⟩

theorem zzWiden_new {bl nl cl nd cd nb cb nw cw bc oc bb ob bw ow : Nat} {ac ad ab aw p0 : Option Addr} {lz bz cz : List Int} {w : World}
    (L : w.heap[bl]? = some (.cells #[.slice ac nl cl, .slice ad nd cd, .slice ab nb cb, .pointer p0] 73 (0, 0)))
    (I : Ints w ac nl bc oc lz) (B : Ints w ab nb bb ob bz) (J : Ints w aw nw bw ow cz) (al : Asc lz) (acz : Asc cz) (bl0 : (nl : Int) ≤ 1048576) (bn : (nb : Int) ≤ 1048576) (bm : (nw : Int) ≤ 1048576) (he : ab = none ∨ bz ≠ cz) :
    Calls Try.prog 25 #[.pointer (some ⟨bl, 0, none⟩), .slice aw nw cw] w fun e w' => ∃ pg, e = .returned (.pointer pg) ∧ WidenNew w w' bl (.slice ac nl cl) (.slice ad nd cd) (.slice aw nw cw) nd lz cz pg := by
  have HL : Hid (w.heap[bl]? = some (.cells #[.slice ac nl cl, .slice ad nd cd, .slice ab nb cb, .pointer p0] 73 (0, 0))) := L
  have HI : Hid (Ints w ac nl bc oc lz) := I
  have HB : Hid (Ints w ab nb bb ob bz) := B
  have HJ : Hid (Ints w aw nw bw ow cz) := J
  have HA : Hid (Asc lz) := al
  have HAC : Hid (Asc cz) := acz
  have HE : Hid _ := he
  clear L I B J al acz he
  go_enter Try.func25, Try.ntmps25
  go_wp2_with (go_at_call 41; go_must (refine (widen_new HL.out HI.out HB.out HJ.out HA.out HAC.out bl0 bn bm HE.out).mono ?_); rintro e wx ⟨pg, rfl, hwn⟩; have HWN : Hid (WidenNew w wx bl (.slice ac nl cl) (.slice ad nd cd) (.slice aw nw cw) nd lz cz pg) := hwn; clear hwn)
  go_ret
  exact ⟨_, rfl, HWN.out⟩

set_option maxRecDepth 100000 in
set_option maxHeartbeats 1000000 in
theorem f7_tail8 {u6 u7 u8 u9 u10 u11 u12 u15 u16 u17 u18 u19 u20 u21 u22 u23 u24 u25 u26 u27 u28 u29 u30 u31 u32 u33 u34 u35 u36 u37 u38 u39 u40 u41 u42 u43 u44 u45 u46 u47 u48 u49 u50 u51 u52 u53 u54 u55 u56 u57 u58 u59 u60 u61 u62 u63 u64 u65 u66 u67 u68 u69 u70 u71 u72 u73 u74 u75 u76 u77 u78 u79 u80 u81 u82 u83 u84 u85 u86 u87 u88 u89 u90 u91 u92 u93 u94 u95 u96 u97 u98 u99 u100 u101 u102 u103 u104 u105 u106 u107 u108 u109 u110 u111 u112 u113 u114 u115 u116 u117 u118 u119 u120 u121 u122 u123 u124 u125 u126 u127 u128 u129 u130 u131 u132 u133 u134 u135 u136 u137 u138 u139 u140 u141 u142 u143 u144 u145 u146 u147 u148 u149 u150 u151 u152 u153 u154 u155 u156 u157 u158 u159 u160 u161 u162 u163 u164 u165 u166 u167 u168 u169 u170 u171 u172 u173 u174 u175 u176 u177 u178 u179 u180 u181 u182 u183 u184 u185 u186 u187 u188 u189 u190 u191 u192 u193 u194 u195 u196 u197 u198 u199 u200 u201 u202 u203 u204 u205 u206 u207 u208 u209 u210 u211 u212 u213 u214 u215 u216 u217 u218 u219 u220 u221 u222 u223 u224 u225 u226 u227 u228 u229 u230 u231 u232 u233 u234 u235 u236 u237 u238 u239 u240 u241 u242 u243 u244 u245 u246 u247 u248 u249 u250 u251 u252 u253 u254 u255 u256 : Value} {W0 w : World} {al ad ab aw ac : Option Addr} {nl cl nd cd nb cb nw cw nc cc bL oL bD oD bB oB bC oC : Nat} {lz bz cz : List Int} {dv : List Vl} {hw : Bool} {al2 ad2 ab2 po : Option Addr} {gl gd gb bl : Nat}
    (A : Arg W0 al ad ab ac nl nd nb nc bL oL bD oD bB oB bC oC lz bz cz dv) (hW : Below W0.heap.size W0 w) (L : w.heap[bl]? = some (.cells #[.slice al2 nl nl, .slice ad2 nd nd, .slice ab2 nb nb, .pointer po] 73 (0, 0))) (hbl : W0.heap.size ≤ bl) (O : OldL w po bl) (I : Ints w al2 nl gl 0 lz) (hnl : al2 = none ↔ al = none) (xl : 0 < nl → gl < bl) (V : Vls w ad2 nd gd 0 dv) (hn : ad2 = none ↔ ad = none) (xd : 0 < nd → gd < bl) (IB : Ints w ab2 nb gb 0 bz) (hnb : ab2 = none ↔ ab = none) :
    Code.wp Try.prog (dropSeq 8 (Try.f7.body.getD .skip)) (bodyPost Try.prog Try.f7 fun e w' => e = .returned (.bool true) ∧ Below W0.heap.size W0 w')
      ⟨List.toArray ((.slice al nl cl) :: (.slice ad nd cd) :: (.slice ab nb cb) :: (.bool hw) :: (.slice aw nw cw) :: (.slice ac nc cc) :: u6 :: u7 :: u8 :: u9 :: u10 :: u11 :: u12 :: (.pointer po) :: (.pointer (some ⟨bl, 0, none⟩)) :: u15 :: u16 :: u17 :: u18 :: u19 :: u20 :: u21 :: u22 :: u23 :: u24 :: u25 :: u26 :: u27 :: u28 :: u29 :: u30 :: u31 :: u32 :: u33 :: u34 :: u35 :: u36 :: u37 :: u38 :: u39 :: u40 :: u41 :: u42 :: u43 :: u44 :: u45 :: u46 :: u47 :: u48 :: u49 :: u50 :: u51 :: u52 :: u53 :: u54 :: u55 :: u56 :: u57 :: u58 :: u59 :: u60 :: u61 :: u62 :: u63 :: u64 :: u65 :: u66 :: u67 :: u68 :: u69 :: u70 :: u71 :: u72 :: u73 :: u74 :: u75 :: u76 :: u77 :: u78 :: u79 :: u80 :: u81 :: u82 :: u83 :: u84 :: u85 :: u86 :: u87 :: u88 :: u89 :: u90 :: u91 :: u92 :: u93 :: u94 :: u95 :: u96 :: u97 :: u98 :: u99 :: u100 :: u101 :: u102 :: u103 :: u104 :: u105 :: u106 :: u107 :: u108 :: u109 :: u110 :: u111 :: u112 :: u113 :: u114 :: u115 :: u116 :: u117 :: u118 :: u119 :: u120 :: u121 :: u122 :: u123 :: u124 :: u125 :: u126 :: u127 :: u128 :: u129 :: u130 :: u131 :: u132 :: u133 :: u134 :: u135 :: u136 :: u137 :: u138 :: u139 :: u140 :: u141 :: u142 :: u143 :: u144 :: u145 :: u146 :: u147 :: u148 :: u149 :: u150 :: u151 :: u152 :: u153 :: u154 :: u155 :: u156 :: u157 :: u158 :: u159 :: u160 :: u161 :: u162 :: u163 :: u164 :: u165 :: u166 :: u167 :: u168 :: u169 :: u170 :: u171 :: u172 :: u173 :: u174 :: u175 :: u176 :: u177 :: u178 :: u179 :: u180 :: u181 :: u182 :: u183 :: u184 :: u185 :: u186 :: u187 :: u188 :: u189 :: u190 :: u191 :: u192 :: u193 :: u194 :: u195 :: u196 :: u197 :: u198 :: u199 :: u200 :: u201 :: u202 :: u203 :: u204 :: u205 :: u206 :: u207 :: u208 :: u209 :: u210 :: u211 :: u212 :: u213 :: u214 :: u215 :: u216 :: u217 :: u218 :: u219 :: u220 :: u221 :: u222 :: u223 :: u224 :: u225 :: u226 :: u227 :: u228 :: u229 :: u230 :: u231 :: u232 :: u233 :: u234 :: u235 :: u236 :: u237 :: u238 :: u239 :: u240 :: u241 :: u242 :: u243 :: u244 :: u245 :: u246 :: u247 :: u248 :: u249 :: u250 :: u251 :: u252 :: u253 :: u254 :: u255 :: u256 :: []), []⟩ w := by
  have HA : Hid _ := A
  obtain ⟨b1, b2, b3, b4⟩ := A.bnd
  have hblw : bl < w.heap.size := (Array.getElem?_eq_some_iff.1 L).1
  have HIC : Hid (Ints w ac nc bC oC cz) := A.ic.below hW
  have HV : Hid (Vls w ad2 nd gd 0 dv) := V
  have HN : Hid _ := hn
  have HO : Hid (OldL w po bl) := O
  have HL : Hid (w.heap[bl]? = some (.cells #[.slice al2 nl nl, .slice ad2 nd nd, .slice ab2 nb nb, .pointer po] 73 (0, 0))) := L
  have HI : Hid (Ints w al2 nl gl 0 lz) := I
  have HNL : Hid _ := hnl
  have HIB : Hid (Ints w ab2 nb gb 0 bz) := IB
  have HNB : Hid _ := hnb
  have HAL : Hid (Asc lz) := A.asl
  have HAC : Hid (Asc cz) := A.asc
  have HXL : Hid _ := xl
  have HXD : Hid _ := xd
  clear xl xd
  by_cases hmemo : ab2 ≠ none ∧ bz = cz
  · obtain ⟨hm1, hm2⟩ := hmemo
    cases ab2 with
    | none => exact absurd rfl hm1
    | some s2 =>
      obtain ⟨sb, rfl⟩ : ∃ sb, ab = some sb := by
        cases ab with
        | none => have := hnb.2 rfl; cases this
        | some sb => exact ⟨sb, rfl⟩
      have HE : Hid _ := hm2
      clear A V hn O L I IB hnl hnb hm1 hm2
      go_step
      refine wp_drop 8 _ (by kernel_rfl) (fun K hK => ?_)
      conv => arg 2; whnf
      go_wp2_with (first | (go_at_call 23; go_must (refine (cloneInts_any _ _ _ _ _ _ _ (by omega) HIC.out).mono ?_); rintro e wx ⟨a3, g3, rfl, hn3, hI3, hg3, hbx⟩; have HBX : Hid _ := hbx; have HI3 : Hid (Ints wx a3 nc g3 0 cz) := hI3; have HN3 : Hid _ := hn3; clear hbx hI3 hn3) | (go_at_call 25; go_must (refine (zzWiden_memo (block_later HL.out HBX.out) (Ints.below HIB.out HBX.out) HI3.out (by omega) (by omega) HE.out).mono ?_); rintro e wy ⟨rfl, hwy⟩; subst hwy))
      refine f7_tail9 (g2 := gb) (B := bl + 1) HA.out (hW.trans (HBX.out.mono hW.size)) (.inl ⟨sb, s2, rfl, HE.out, rfl, rfl, rfl, rfl, rfl, Ints.below HIB.out HBX.out⟩) (block_later HL.out HBX.out) (by omega) ?_ (Vls.below HV.out HBX.out) HN.out (Ints.below HI.out HBX.out) HNL.out
      rcases OldL.below HO.out HBX.out with h | ⟨bo, co, h1, h2, h3⟩
      · exact .inl h
      · exact .inr ⟨bo, co, h1, by omega, h3⟩
  · have hor : ab2 = none ∨ bz ≠ cz := by
      by_cases h : ab2 = none
      · exact .inl h
      · exact .inr (fun e => hmemo ⟨h, e⟩)
    have hor' : ab = none ∨ bz ≠ cz := by
      rcases hor with h | h
      · exact .inl (hnb.1 h)
      · exact .inr h
    have HOR : Hid _ := hor
    have HOR' : Hid _ := hor'
    clear A V hn O L I IB hnl hnb hmemo hor hor'
    go_step
    refine wp_drop 8 _ (by kernel_rfl) (fun K hK => ?_)
    conv => arg 2; whnf
    go_wp2_with (first | (go_at_call 23; go_must (refine (cloneInts_any _ _ _ _ _ _ _ (by omega) HIC.out).mono ?_); rintro e wx ⟨a3, g3, rfl, hn3, hI3, hg3, hbx⟩; have HBX : Hid _ := hbx; have HI3 : Hid (Ints wx a3 nc g3 0 cz) := hI3; have HN3 : Hid _ := hn3; clear hbx hI3 hn3) | (go_at_call 25; go_must (refine (zzWiden_new (block_later HL.out HBX.out) (Ints.below HI.out HBX.out) (Ints.below HIB.out HBX.out) HI3.out HAL.out HAC.out (by omega) (by omega) (by omega) HOR.out).mono ?_); rintro e wy ⟨pg, rfl, hwn⟩; have HWN : Hid (WidenNew wx wy bl (.slice al2 nl nl) (.slice ad2 nd nd) (.slice a3 nc nc) nd lz cz pg) := hwn; clear hwn))
    obtain ⟨hbut, hlay, r, ar, asub, alen, afr⟩ := HWN.out
    have hbx := HBX.out
    have hWx := hW.trans (hbx.mono hW.size)
    have hwy : Below W0.heap.size W0 wy := hWx.trans (hbut.below hWx.size (fun k hk => by omega))
    have hsz := hbx.size
    refine f7_tail9 (g2 := g3) (B := wx.heap.size) HA.out hwy (.inr ⟨HOR'.out, rfl, rfl, rfl, HN3.out, HI3.out.but hbut (fun _ => by omega), r, ar, asub, alen, ?_⟩) hlay (by omega) ?_ ((Vls.below HV.out hbx).but hbut (fun h => by have := HXD.out h; omega)) HN.out ((Ints.below HI.out hbx).but hbut (fun h => by have := HXL.out h; omega)) HNL.out
    · rcases afr with h | ⟨h1, g, ar, cr, gr, h2, h3, h4, h5⟩
      · exact .inl h
      · exact .inr ⟨h1, g, ar, cr, gr, h2, h3, h4, h5⟩
    · rcases OldL.below HO.out hbx with h | ⟨bo, co, h1, h2, h3⟩
      · exact .inl h
      · exact .inr ⟨bo, co, h1, by omega, (hbut.block bo (by omega) (by omega)).trans h3⟩

end Go.Proofs.Qxb6601655a
