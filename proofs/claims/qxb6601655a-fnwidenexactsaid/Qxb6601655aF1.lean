import Derived.Test.Qxb6601655aW9
import Derived.Test.Qxb6601655aW3
import Derived.Test.Qxb6601655aW6
namespace Go.Proofs.Qxb6601655a
set_option linter.unusedSimpArgs false
set_option linter.unusedVariables false
open Go.RowKit
attribute [local go_sem] Try.eq45 Try.eq46 Try.eq53 Try.ne45 Try.eq50_same Try.ne50_same


/-- The arguments that the law reads, as they lie where it begins. -/
structure Arg (W0 : World) (al ad ab ac : Option Addr) (nl nd nb nc bL oL bD oD bB oB bC oC : Nat) (lz bz cz : List Int) (dv : List Vl) : Prop where
  il : Ints W0 al nl bL oL lz
  vd : Vls W0 ad nd bD oD dv
  ib : Ints W0 ab nb bB oB bz
  ic : Ints W0 ac nc bC oC cz
  bnd : (nl : Int) ≤ 1048576 ∧ (nd : Int) ≤ 1048576 ∧ (nb : Int) ≤ 1048576 ∧ (nc : Int) ≤ 1048576
  asl : Asc lz
  asc : Asc cz

theorem contains_in {a : Option Addr} {n c b o : Nat} {zs : List Int} {x : Int} {w : World} (hn : (n : Int) ≤ 4194304) (I : Ints w a n b o zs) (A : Asc zs) (h : x ∈ zs) :
    Calls Try.prog 29 #[.slice a n c, .int .i64 x] w fun e w' => e = .returned (.bool true) ∧ w' = w := by
  have := contains_any a n c b o zs x w hn I A
  rw [decide_eq_true h] at this
  exact this
theorem contains_out {a : Option Addr} {n c b o : Nat} {zs : List Int} {x : Int} {w : World} (hn : (n : Int) ≤ 4194304) (I : Ints w a n b o zs) (A : Asc zs) (h : x ∉ zs) :
    Calls Try.prog 29 #[.slice a n c, .int .i64 x] w fun e w' => e = .returned (.bool false) ∧ w' = w := by
  have := contains_any a n c b o zs x w hn I A
  rw [decide_eq_false h] at this
  exact this
theorem ascending_yes {a : Option Addr} {n c b o : Nat} {zs : List Int} {w : World} (hn : (n : Int) ≤ 4194304) (I : Ints w a n b o zs) (A : Asc zs) :
    Calls Try.prog 21 #[.slice a n c] w fun e w' => e = .returned (.bool true) ∧ Below w.heap.size w w' := by
  refine (ascending_any a n c b o zs w hn I).mono ?_
  rintro e w' ⟨r, rfl, hr, hb⟩
  obtain rfl := hr.2 A
  exact ⟨rfl, hb⟩
theorem sameInts_yes {a a' : Option Addr} {n c b o c' b' o' : Nat} {zs : List Int} {w : World} (hn : (n : Int) ≤ 4194304) (I : Ints w a n b o zs) (I' : Ints w a' n b' o' zs) :
    Calls Try.prog 27 #[.slice a n c, .slice a' n c'] w fun e w' => e = .returned (.bool true) ∧ Below w.heap.size w w' := by
  refine (sameInts_any a n c b o zs a' n c' b' o' zs w hn hn I I').mono ?_
  rintro e w' ⟨r, rfl, hr, hb⟩
  obtain rfl := hr.2 rfl
  exact ⟨rfl, hb⟩
theorem sameInts_no {a a' : Option Addr} {n c b o n' c' b' o' : Nat} {xs ys : List Int} {w : World} (hn : (n : Int) ≤ 4194304) (hn' : (n' : Int) ≤ 4194304) (I : Ints w a n b o xs) (I' : Ints w a' n' b' o' ys) (h : xs ≠ ys) :
    Calls Try.prog 27 #[.slice a n c, .slice a' n' c'] w fun e w' => e = .returned (.bool false) ∧ Below w.heap.size w w' := by
  refine (sameInts_any a n c b o xs a' n' c' b' o' ys w hn hn' I I').mono ?_
  rintro e w' ⟨r, rfl, hr, hb⟩
  cases r with
  | false => exact ⟨rfl, hb⟩
  | true => exact absurd (hr.1 rfl) h

set_option maxRecDepth 100000 in
set_option maxHeartbeats 3200000 in
theorem f7_tail20 {u6 u7 u8 u9 u10 u11 u12 u13 u14 u15 u16 u17 u18 u19 u20 u21 u22 u24 u25 u26 u27 u28 u29 u30 u31 u32 u33 u34 u35 u36 u37 u38 u39 u40 u41 u42 u43 u44 u45 u46 u47 u48 u49 u50 u51 u52 u53 u54 u55 u56 u57 u58 u59 u60 u61 u62 u63 u64 u65 u66 u67 u68 u69 u70 u71 u72 u73 u74 u75 u76 u77 u78 u79 u80 u81 u82 u83 u84 u85 u86 u87 u88 u89 u90 u91 u92 u93 u94 u95 u96 u97 u98 u99 u100 u101 u102 u103 u104 u105 u106 u107 u108 u109 u110 u111 u112 u113 u114 u115 u116 u117 u118 u119 u120 u121 u122 u123 u124 u125 u126 u127 u128 u129 u130 u131 u132 u133 u134 u135 u136 u137 u138 u139 u140 u141 u142 u143 u144 u145 u146 u147 u148 u149 u150 u151 u152 u153 u154 u155 u156 u157 u158 u159 u160 u161 u162 u163 u164 u165 u166 u167 u168 u169 u170 u171 u172 u173 u174 u175 u176 u177 u178 u179 u180 u181 u182 u183 u184 u185 u186 u187 u188 u189 u190 u191 u192 u193 u194 u195 u196 u197 u198 u199 u200 u201 u202 u203 u204 u205 u206 u207 u208 u209 u210 u211 u212 u213 u214 u215 u216 u217 u218 u219 u220 u221 u222 u223 u224 u225 u226 u227 u228 u229 u230 u231 u232 u233 u234 u235 u236 u237 u238 u239 u240 u241 u242 u243 u244 u245 u246 u247 u248 u249 u250 u251 u252 u253 u254 u255 u256 : Value} {W0 w : World} {al ad ab aw ac : Option Addr} {nl cl nd cd nb cb nw cw nc cc bL oL bD oD bB oB bC oC : Nat} {lz bz cz : List Int} {dv : List Vl} {hw : Bool} {ar : Option Addr} {r : List Int} {cr gr : Nat}
    (A : Arg W0 al ad ab ac nl nd nb nc bL oL bD oD bB oB bC oC lz bz cz dv) (hW : Below W0.heap.size W0 w) (R : Ints w ar r.length gr 0 r) (br : (r.length : Int) ≤ 2097152) (sub : ∀ x ∈ r, x ∈ lz ∨ x ∈ cz) :
    Code.wp Try.prog (dropSeq 20 (Try.f7.body.getD .skip)) (bodyPost Try.prog Try.f7 fun e w' => e = .returned (.bool true) ∧ Below W0.heap.size W0 w')
      ⟨List.toArray ((.slice al nl cl) :: (.slice ad nd cd) :: (.slice ab nb cb) :: (.bool hw) :: (.slice aw nw cw) :: (.slice ac nc cc) :: u6 :: u7 :: u8 :: u9 :: u10 :: u11 :: u12 :: u13 :: u14 :: u15 :: u16 :: u17 :: u18 :: u19 :: u20 :: u21 :: u22 :: (.slice ar r.length cr) :: u24 :: u25 :: u26 :: u27 :: u28 :: u29 :: u30 :: u31 :: u32 :: u33 :: u34 :: u35 :: u36 :: u37 :: u38 :: u39 :: u40 :: u41 :: u42 :: u43 :: u44 :: u45 :: u46 :: u47 :: u48 :: u49 :: u50 :: u51 :: u52 :: u53 :: u54 :: u55 :: u56 :: u57 :: u58 :: u59 :: u60 :: u61 :: u62 :: u63 :: u64 :: u65 :: u66 :: u67 :: u68 :: u69 :: u70 :: u71 :: u72 :: u73 :: u74 :: u75 :: u76 :: u77 :: u78 :: u79 :: u80 :: u81 :: u82 :: u83 :: u84 :: u85 :: u86 :: u87 :: u88 :: u89 :: u90 :: u91 :: u92 :: u93 :: u94 :: u95 :: u96 :: u97 :: u98 :: u99 :: u100 :: u101 :: u102 :: u103 :: u104 :: u105 :: u106 :: u107 :: u108 :: u109 :: u110 :: u111 :: u112 :: u113 :: u114 :: u115 :: u116 :: u117 :: u118 :: u119 :: u120 :: u121 :: u122 :: u123 :: u124 :: u125 :: u126 :: u127 :: u128 :: u129 :: u130 :: u131 :: u132 :: u133 :: u134 :: u135 :: u136 :: u137 :: u138 :: u139 :: u140 :: u141 :: u142 :: u143 :: u144 :: u145 :: u146 :: u147 :: u148 :: u149 :: u150 :: u151 :: u152 :: u153 :: u154 :: u155 :: u156 :: u157 :: u158 :: u159 :: u160 :: u161 :: u162 :: u163 :: u164 :: u165 :: u166 :: u167 :: u168 :: u169 :: u170 :: u171 :: u172 :: u173 :: u174 :: u175 :: u176 :: u177 :: u178 :: u179 :: u180 :: u181 :: u182 :: u183 :: u184 :: u185 :: u186 :: u187 :: u188 :: u189 :: u190 :: u191 :: u192 :: u193 :: u194 :: u195 :: u196 :: u197 :: u198 :: u199 :: u200 :: u201 :: u202 :: u203 :: u204 :: u205 :: u206 :: u207 :: u208 :: u209 :: u210 :: u211 :: u212 :: u213 :: u214 :: u215 :: u216 :: u217 :: u218 :: u219 :: u220 :: u221 :: u222 :: u223 :: u224 :: u225 :: u226 :: u227 :: u228 :: u229 :: u230 :: u231 :: u232 :: u233 :: u234 :: u235 :: u236 :: u237 :: u238 :: u239 :: u240 :: u241 :: u242 :: u243 :: u244 :: u245 :: u246 :: u247 :: u248 :: u249 :: u250 :: u251 :: u252 :: u253 :: u254 :: u255 :: u256 :: []), []⟩ w := by
  have HA : Hid _ := A
  obtain ⟨b1, b2, b3, b4⟩ := A.bnd
  have HIL : Hid (Ints w al nl bL oL lz) := A.il.below hW
  have HIC : Hid (Ints w ac nc bC oC cz) := A.ic.below hW
  have HAL : Hid (Asc lz) := A.asl
  have HAC : Hid (Asc cz) := A.asc
  have HR : Hid (Ints w ar r.length gr 0 r) := R
  have HS : Hid _ := sub
  clear A R sub HA
  go_step
  refine wp_drop 20 _ (by kernel_rfl) (fun K hK => ?_)
  conv => arg 2; whnf
  go_wp2_with fail
  go_loop [27] (fun i => ∃ k : Nat, k ≤ r.length ∧ i = .int .i64 k) (fun i => r.length - (intOf i).toNat)
  case atStart => exact ⟨0, Nat.zero_le _, rfl⟩
  case round =>
    obtain ⟨k, hk, rfl⟩ := hrel
    by_cases hlt : k < r.length
    · have hx := HR.out.cell k hlt
      obtain rfl := HR.out.ad (by omega)
      rw [Nat.zero_add] at hx
      have hm : ig r k ∈ r := ig_mem hlt
      have hor := HS.out _ hm
      obtain ⟨x, hxe⟩ : ∃ x, x = ig r k := ⟨_, rfl⟩
      rw [← hxe] at hx hor
      have HOR : Hid _ := hor
      clear hm hor hxe
      have hpos : ((k : Nat) : Int) < ((r.length : Nat) : Int) := by omega
      by_cases h1 : x ∈ lz
      · have H1 : Hid _ := h1
        clear h1
        go_wp2_with (go_at_call 29; refine (contains_in (by omega) HIL.out HAL.out H1.out).mono ?_; rintro e wx ⟨rfl, hwx⟩; subst hwx)
        go_round
        case rel => exact ⟨k + 1, by omega, by go_num⟩
        case measure => simp [intOf]; omega
      · have h2 : x ∈ cz := HOR.out.resolve_left h1
        have H1 : Hid _ := h1
        have H2 : Hid _ := h2
        clear h1 h2
        go_wp2_with (first | (have HQ := HZ; go_at_call 29; go_must (refine (contains_in (by omega) HIC.out HAC.out H2.out).mono ?_); rintro e wx ⟨rfl, hwx⟩; subst hwx; clear HQ) | (go_at_call 29; go_must (refine (contains_out (by omega) HIL.out HAL.out H1.out).mono ?_); rintro e wx ⟨rfl, hwx⟩; subst hwx; have HZ : Hid True := trivial))
        go_round
        case rel => exact ⟨k + 1, by omega, by go_num⟩
        case measure => simp [intOf]; omega
    · obtain ⟨m, hm⟩ : ∃ m, r.length = m := ⟨_, rfl⟩
      have hkm : k = m := by omega
      subst hkm
      go_wp2_with fail
      conv => arg 2; whnf
      go_wp2
      go_ret
      exact ⟨rfl, hW⟩

end Go.Proofs.Qxb6601655a
