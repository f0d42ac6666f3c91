import Derived.Test.Qxb6601457aScrE
import Derived.Test.Qxb6601457aSeq
import Derived.Test.Qxb6601457aMake
import Derived.BigQuiet
namespace Go.Proofs.Qxb6601457a
set_option linter.unusedSimpArgs false
set_option linter.unusedVariables false
open Go.RowKit Go.Sort
attribute [local go_sem] run_store_float

/-- Six stores into label number t of a row. -/
theorem six_stores {w : World} {g n t : Nat} {cs : List Value} (h : Own w 45 6 (.slice (some ⟨g, 0, none⟩) n n) n n cs) (ht : t < n) (x : Lab) :
    (∃ cs', Own ((((((w.setCell ⟨g, t * 6, none⟩ (.float .f64 x.wt)).setCell ⟨g, t * 6 + 1, none⟩ (.float .f64 x.lo)).setCell ⟨g, t * 6 + 2, none⟩ (.float .f64 x.de)).setCell ⟨g, t * 6 + 3, none⟩ (.int .i64 x.ho)).setCell ⟨g, t * 6 + 4, none⟩ (.int .i64 x.st)).setCell ⟨g, t * 6 + 5, none⟩ (.int .i64 x.pr)) 45 6 (.slice (some ⟨g, 0, none⟩) n n) n n cs') ∧ LabAt ((((((w.setCell ⟨g, t * 6, none⟩ (.float .f64 x.wt)).setCell ⟨g, t * 6 + 1, none⟩ (.float .f64 x.lo)).setCell ⟨g, t * 6 + 2, none⟩ (.float .f64 x.de)).setCell ⟨g, t * 6 + 3, none⟩ (.int .i64 x.ho)).setCell ⟨g, t * 6 + 4, none⟩ (.int .i64 x.st)).setCell ⟨g, t * 6 + 5, none⟩ (.int .i64 x.pr)) g (t * 6) x ∧
      ∀ j y, j ≠ t → LabAt w g (j * 6) y → LabAt ((((((w.setCell ⟨g, t * 6, none⟩ (.float .f64 x.wt)).setCell ⟨g, t * 6 + 1, none⟩ (.float .f64 x.lo)).setCell ⟨g, t * 6 + 2, none⟩ (.float .f64 x.de)).setCell ⟨g, t * 6 + 3, none⟩ (.int .i64 x.ho)).setCell ⟨g, t * 6 + 4, none⟩ (.int .i64 x.st)).setCell ⟨g, t * 6 + 5, none⟩ (.int .i64 x.pr)) g (j * 6) y := by
  have hl := h.1
  have h1 := (((((h.stored (t * 6) (.float .f64 x.wt)).stored (t * 6 + 1) (.float .f64 x.lo)).stored (t * 6 + 2) (.float .f64 x.de)).stored (t * 6 + 3) (.int .i64 x.ho)).stored (t * 6 + 4) (.int .i64 x.st)).stored (t * 6 + 5) (.int .i64 x.pr)
  have hc := fun q => h1.cell q
  refine ⟨⟨_, h1⟩, ?_, fun j y hj hy => ?_⟩
  · refine ⟨?_, ?_, ?_, ?_, ?_, ?_⟩ <;> (rw [hc]; simp [List.getElem?_set]; omega)
  · have key : ∀ q, q < 6 → ((((((w.setCell ⟨g, t * 6, none⟩ (.float .f64 x.wt)).setCell ⟨g, t * 6 + 1, none⟩ (.float .f64 x.lo)).setCell ⟨g, t * 6 + 2, none⟩ (.float .f64 x.de)).setCell ⟨g, t * 6 + 3, none⟩ (.int .i64 x.ho)).setCell ⟨g, t * 6 + 4, none⟩ (.int .i64 x.st)).setCell ⟨g, t * 6 + 5, none⟩ (.int .i64 x.pr)).cell? ⟨g, j * 6 + q, none⟩ = w.cell? ⟨g, j * 6 + q, none⟩ := by
      intro q hq
      rw [hc, h.cell]
      have n0 : ¬ t * 6 = j * 6 + q := by omega
      have n1 : ¬ t * 6 + 1 = j * 6 + q := by omega
      have n2 : ¬ t * 6 + 2 = j * 6 + q := by omega
      have n3 : ¬ t * 6 + 3 = j * 6 + q := by omega
      have n4 : ¬ t * 6 + 4 = j * 6 + q := by omega
      have n5 : ¬ t * 6 + 5 = j * 6 + q := by omega
      simp only [List.getElem?_set, n0, n1, n2, n3, n4, n5, if_false]
    exact ⟨(key 0 (by omega)).trans hy.c0, (key 1 (by omega)).trans hy.c1, (key 2 (by omega)).trans hy.c2, (key 3 (by omega)).trans hy.c3, (key 4 (by omega)).trans hy.c4, (key 5 (by omega)).trans hy.c5⟩

theorem Own.some {w : World} {e : TypeId} {size g n cap : Nat} {cs : List Value} (h : Own w e size (.slice (some ⟨g, 0, none⟩) n cap) n cap cs) (q : Nat) (hq : q < cap * size) : ∃ v, w.cell? ⟨g, q, none⟩ = some v := by
  have hl := h.1
  exact ⟨cs[q]'(by omega), by rw [h.cell q, List.getElem?_eq_getElem (by omega)]⟩

theorem below_six {B : Nat} {a w : World} (h : Below B a w) {g o : Nat} (hg : B ≤ g) (x : Lab) : Below B a ((((((w.setCell ⟨g, o, none⟩ (.float .f64 x.wt)).setCell ⟨g, o + 1, none⟩ (.float .f64 x.lo)).setCell ⟨g, o + 2, none⟩ (.float .f64 x.de)).setCell ⟨g, o + 3, none⟩ (.int .i64 x.ho)).setCell ⟨g, o + 4, none⟩ (.int .i64 x.st)).setCell ⟨g, o + 5, none⟩ (.int .i64 x.pr)) :=
  (((((h.setCell hg _).setCell hg _).setCell hg _).setCell hg _).setCell hg _).setCell hg _


set_option maxRecDepth 100000 in
set_option maxHeartbeats 3200000 in
theorem f6_tail4 {u1 u2 u3 u4 u5 u6 u7 u8 u9 u10 u11 u12 u13 u14 u15 u16 u17 u18 u19 u20 u21 u22 u23 u24 u25 u26 u27 u28 u29 u30 u31 u32 u33 u34 u35 u36 u37 u38 u39 u40 u41 u42 u43 u44 u45 u46 u47 u48 u49 u50 u51 u52 u53 u54 u55 u56 u57 u58 u59 u60 u61 u62 u63 u64 u65 u66 u67 u68 u69 u70 u71 u72 u73 u74 u75 u76 u77 u78 u79 u80 u81 u82 u83 u84 u85 u86 u87 u88 u89 u90 u91 u92 u93 u94 u95 u96 u97 u98 u99 u100 u101 u102 u103 u104 u105 u106 u107 u108 u109 u110 u111 u112 u113 u114 u115 u116 u117 u118 u119 u120 u121 u122 u123 u124 u125 u126 u127 u128 u129 u130 u131 u132 u133 u134 u135 u136 u137 u138 u139 u140 u141 u142 u143 u144 u145 u146 u147 u148 u149 u150 u151 u152 u153 u154 u155 u156 u157 u158 u159 u160 u161 u162 u163 u164 u165 u166 u167 u168 u169 u170 u171 u172 u173 u174 u175 u176 u177 u178 u179 u180 u181 u182 u183 u184 u185 u186 u187 u188 u189 u190 u191 u192 u193 u194 u195 u196 u197 u198 u199 u200 u201 u202 u203 u204 u205 u206 u207 u208 u209 u210 u211 u212 u213 u214 u215 u216 u217 u218 u219 u220 u221 u222 u223 u224 u225 u226 u227 u228 u229 u230 u231 u232 u233 u234 u235 u236 u237 u238 u239 u240 u241 u242 u243 u244 u245 u246 u247 : Value} {W0 w : World} {aL : Option Addr} {n cL bL oL : Nat} (c : Nat → Lab) (d : Lab)
    (hW : Below W0.heap.size W0 w) (bn : n ≤ 1024) (iL : LabsF W0 aL n bL oL c)
    (hr : ∀ s, asGoodB (c s) (c s) = true) (htr : ∀ a b e, asGoodB (c a) (c b) = true → asGoodB (c b) (c e) = true → asGoodB (c a) (c e) = true) :
    Code.wp Try.prog (dropSeq 4 (Try.f6.body.getD .skip)) (bodyPost Try.prog Try.f6 fun e w' => e = .returned (.bool true) ∧ Below W0.heap.size W0 w')
      ⟨List.toArray ((.slice aL n cL) :: u1 :: u2 :: u3 :: u4 :: u5 :: u6 :: u7 :: u8 :: u9 :: u10 :: u11 :: u12 :: u13 :: u14 :: u15 :: u16 :: u17 :: u18 :: u19 :: u20 :: u21 :: u22 :: u23 :: u24 :: u25 :: u26 :: u27 :: u28 :: u29 :: u30 :: u31 :: u32 :: u33 :: u34 :: u35 :: u36 :: u37 :: u38 :: u39 :: u40 :: u41 :: u42 :: u43 :: u44 :: u45 :: u46 :: u47 :: u48 :: u49 :: u50 :: u51 :: u52 :: u53 :: u54 :: u55 :: u56 :: u57 :: u58 :: u59 :: u60 :: u61 :: u62 :: u63 :: u64 :: u65 :: u66 :: u67 :: u68 :: u69 :: u70 :: u71 :: u72 :: u73 :: u74 :: u75 :: u76 :: u77 :: u78 :: u79 :: u80 :: u81 :: u82 :: u83 :: u84 :: u85 :: u86 :: u87 :: u88 :: u89 :: u90 :: u91 :: u92 :: u93 :: u94 :: u95 :: u96 :: u97 :: u98 :: u99 :: u100 :: u101 :: u102 :: u103 :: u104 :: u105 :: u106 :: u107 :: u108 :: u109 :: u110 :: u111 :: u112 :: u113 :: u114 :: u115 :: u116 :: u117 :: u118 :: u119 :: u120 :: u121 :: u122 :: u123 :: u124 :: u125 :: u126 :: u127 :: u128 :: u129 :: u130 :: u131 :: u132 :: u133 :: u134 :: u135 :: u136 :: u137 :: u138 :: u139 :: u140 :: u141 :: u142 :: u143 :: u144 :: u145 :: u146 :: u147 :: u148 :: u149 :: u150 :: u151 :: u152 :: u153 :: u154 :: u155 :: u156 :: u157 :: u158 :: u159 :: u160 :: u161 :: u162 :: u163 :: u164 :: u165 :: u166 :: u167 :: u168 :: u169 :: u170 :: u171 :: u172 :: u173 :: u174 :: u175 :: u176 :: u177 :: u178 :: u179 :: u180 :: u181 :: u182 :: u183 :: u184 :: u185 :: u186 :: u187 :: u188 :: u189 :: u190 :: u191 :: u192 :: u193 :: u194 :: u195 :: u196 :: u197 :: u198 :: u199 :: u200 :: u201 :: u202 :: u203 :: u204 :: u205 :: u206 :: u207 :: u208 :: u209 :: u210 :: u211 :: u212 :: u213 :: u214 :: u215 :: u216 :: u217 :: u218 :: u219 :: u220 :: u221 :: u222 :: u223 :: u224 :: u225 :: u226 :: u227 :: u228 :: u229 :: u230 :: u231 :: u232 :: u233 :: u234 :: u235 :: u236 :: u237 :: u238 :: u239 :: u240 :: u241 :: u242 :: u243 :: u244 :: u245 :: u246 :: u247 :: []), []⟩ w := by
  obtain ⟨i0, hi0, hz0, hz1, hz2⟩ := info_parts Try.info45
  have HR : Hid _ := hr
  have HT : Hid _ := htr
  clear hr htr
  go_step
  refine wp_drop 4 (Try.f6.body.getD .skip) (by kernel_rfl) (fun K hK => ?_)
  conv => arg 2; whnf
  go_wp2_with (at_make; go_must (refine wpList_make_exact _ rfl _ _ 43 rfl 45 i0 (.agg #[.float .f64 0, .float .f64 0, .float .f64 0, .int .i64 0, .int .i64 0, .int .i64 0]) 6 Try.underlying43 hi0 hz0 hz1 .i64 .i64 _ _ n n rfl rfl rfl rfl (Nat.le_refl _) (by rw [hz2]; omega) (by unfold maxLen; omega) ?_))
  refine wp_drop 5 (Try.f6.body.getD .skip) (by kernel_rfl) (fun K hK => ?_)
  conv => arg 2; whnf
  go_wp2_with fail
  have hmade := Own.made w 45 6 n n (Value.agg #[.float .f64 0, .float .f64 0, .float .f64 0, .int .i64 0, .int .i64 0, .int .i64 0]).cells (Nat.le_refl _) (by unfold maxLen; omega)
  go_loopw [5] (fun i wr => ∃ (t : Nat) (cs : List Value), t ≤ n ∧ i = .int .i64 t ∧ Own wr 45 6 (.slice (some ⟨w.heap.size, 0, none⟩) n n) n n cs ∧ (∀ j, j < t → LabAt wr w.heap.size (j * 6) (c j)) ∧ Below w.heap.size w wr) (fun i _ => n - (intOf i).toNat)
  case atStart => exact ⟨0, _, Nat.zero_le _, rfl, by simpa [Value.cells] using hmade, fun j hj => by omega, (Below.refl _ _).alloc (Nat.le_refl _) _⟩
  case round =>
    clear hmade
    obtain ⟨t, cs, ht, rfl, hown, hlab, hbel⟩ := hrel
    by_cases hlt : t < n
    · have hlt' : (t : Int) < n := by omega
      have hwr := hW.trans (hbel.mono hW.size)
      have xl := (iL.below hwr).cell t hlt
      obtain rfl := iL.ad (by omega)
      obtain ⟨x, hx⟩ : ∃ x, x = c t := ⟨_, rfl⟩
      rw [← hx] at xl
      have e0 := xl.c0
      have e1 := xl.c1
      have e2 := xl.c2
      have e3 := xl.c3
      have e4 := xl.c4
      have e5 := xl.c5
      have hcl : cs.length = n * 6 := hown.1
      have HX : Hid _ := hx
      have HLAB : Hid _ := hlab
      clear hx xl hwr hlab
      go_wp2_with (go_at_call 18; go_must (refine (toLabel_any _ _ _ _ _ _ _).mono ?_); rintro e wx ⟨rfl, hb⟩; have hox := hown.below hb; obtain ⟨v0, q0⟩ := hox.some (t * 6) (by omega); have f0 := hox.frozen (t * 6); obtain ⟨v1, q1⟩ := hox.some (t * 6 + 1) (by omega); have f1 := hox.frozen (t * 6 + 1); obtain ⟨v2, q2⟩ := hox.some (t * 6 + 2) (by omega); have f2 := hox.frozen (t * 6 + 2); obtain ⟨v3, q3⟩ := hox.some (t * 6 + 3) (by omega); have f3 := hox.frozen (t * 6 + 3); obtain ⟨v4, q4⟩ := hox.some (t * 6 + 4) (by omega); have f4 := hox.frozen (t * 6 + 4); obtain ⟨v5, q5⟩ := hox.some (t * 6 + 5) (by omega); have f5 := hox.frozen (t * 6 + 5); clear hcl)
      go_roundw
      case rel =>
        obtain ⟨⟨cs', ho'⟩, hnew, hold⟩ := six_stores hox hlt x
        refine ⟨t + 1, cs', by omega, by go_num, ho', fun j hj => ?_, below_six (hbel.trans (hb.mono hbel.size)) (Nat.le_refl _) x⟩
        by_cases hjt : j < t
        · exact hold j _ (by omega) ((HLAB.out j hjt).below hb)
        · obtain rfl : j = t := by omega
          rw [← HX.out]; exact hnew
      case measure => simp [intOf]; omega
    · obtain rfl : n = t := by omega
      have HLAB : Hid _ := hlab
      clear hlab
      go_wp2
      exact f6_tail6 c d (hW.trans (hbel.mono hW.size)) bn ⟨fun _ => rfl, fun j hj => by rw [Nat.zero_add]; exact HLAB.out j hj⟩ iL HR.out HT.out

theorem ne_nan (x : Nat) : (FloatKind.f64.format.order x x != some .eq) = isNan x := by
  have h := @nan_of_ne x
  have e : (FloatKind.f64.format.order x x != some .eq) = !feq x x := rfl
  rw [e, h, Bool.not_not]


set_option maxRecDepth 100000 in
set_option maxHeartbeats 3200000 in
theorem f6_tail3 {u1 u2 u3 u4 u5 u6 u7 u8 u9 u10 u11 u12 u13 u14 u15 u16 u17 u18 u19 u20 u21 u22 u23 u24 u25 u26 u27 u28 u29 u30 u31 u32 u33 u34 u35 u36 u37 u38 u39 u40 u41 u42 u43 u44 u45 u46 u47 u48 u49 u50 u51 u52 u53 u54 u55 u56 u57 u58 u59 u60 u61 u62 u63 u64 u65 u66 u67 u68 u69 u70 u71 u72 u73 u74 u75 u76 u77 u78 u79 u80 u81 u82 u83 u84 u85 u86 u87 u88 u89 u90 u91 u92 u93 u94 u95 u96 u97 u98 u99 u100 u101 u102 u103 u104 u105 u106 u107 u108 u109 u110 u111 u112 u113 u114 u115 u116 u117 u118 u119 u120 u121 u122 u123 u124 u125 u126 u127 u128 u129 u130 u131 u132 u133 u134 u135 u136 u137 u138 u139 u140 u141 u142 u143 u144 u145 u146 u147 u148 u149 u150 u151 u152 u153 u154 u155 u156 u157 u158 u159 u160 u161 u162 u163 u164 u165 u166 u167 u168 u169 u170 u171 u172 u173 u174 u175 u176 u177 u178 u179 u180 u181 u182 u183 u184 u185 u186 u187 u188 u189 u190 u191 u192 u193 u194 u195 u196 u197 u198 u199 u200 u201 u202 u203 u204 u205 u206 u207 u208 u209 u210 u211 u212 u213 u214 u215 u216 u217 u218 u219 u220 u221 u222 u223 u224 u225 u226 u227 u228 u229 u230 u231 u232 u233 u234 u235 u236 u237 u238 u239 u240 u241 u242 u243 u244 u245 u246 u247 : Value} {W0 w : World} {aL : Option Addr} {n cL bL oL : Nat} (c : Nat → Lab) (d : Lab)
    (hW : Below W0.heap.size W0 w) (bn : n ≤ 1024) (iL : LabsF W0 aL n bL oL c) (hbig : ∀ s, n ≤ s → okLab (c s)) :
    Code.wp Try.prog (dropSeq 3 (Try.f6.body.getD .skip)) (bodyPost Try.prog Try.f6 fun e w' => e = .returned (.bool true) ∧ Below W0.heap.size W0 w')
      ⟨List.toArray ((.slice aL n cL) :: u1 :: u2 :: u3 :: u4 :: u5 :: u6 :: u7 :: u8 :: u9 :: u10 :: u11 :: u12 :: u13 :: u14 :: u15 :: u16 :: u17 :: u18 :: u19 :: u20 :: u21 :: u22 :: u23 :: u24 :: u25 :: u26 :: u27 :: u28 :: u29 :: u30 :: u31 :: u32 :: u33 :: u34 :: u35 :: u36 :: u37 :: u38 :: u39 :: u40 :: u41 :: u42 :: u43 :: u44 :: u45 :: u46 :: u47 :: u48 :: u49 :: u50 :: u51 :: u52 :: u53 :: u54 :: u55 :: u56 :: u57 :: u58 :: u59 :: u60 :: u61 :: u62 :: u63 :: u64 :: u65 :: u66 :: u67 :: u68 :: u69 :: u70 :: u71 :: u72 :: u73 :: u74 :: u75 :: u76 :: u77 :: u78 :: u79 :: u80 :: u81 :: u82 :: u83 :: u84 :: u85 :: u86 :: u87 :: u88 :: u89 :: u90 :: u91 :: u92 :: u93 :: u94 :: u95 :: u96 :: u97 :: u98 :: u99 :: u100 :: u101 :: u102 :: u103 :: u104 :: u105 :: u106 :: u107 :: u108 :: u109 :: u110 :: u111 :: u112 :: u113 :: u114 :: u115 :: u116 :: u117 :: u118 :: u119 :: u120 :: u121 :: u122 :: u123 :: u124 :: u125 :: u126 :: u127 :: u128 :: u129 :: u130 :: u131 :: u132 :: u133 :: u134 :: u135 :: u136 :: u137 :: u138 :: u139 :: u140 :: u141 :: u142 :: u143 :: u144 :: u145 :: u146 :: u147 :: u148 :: u149 :: u150 :: u151 :: u152 :: u153 :: u154 :: u155 :: u156 :: u157 :: u158 :: u159 :: u160 :: u161 :: u162 :: u163 :: u164 :: u165 :: u166 :: u167 :: u168 :: u169 :: u170 :: u171 :: u172 :: u173 :: u174 :: u175 :: u176 :: u177 :: u178 :: u179 :: u180 :: u181 :: u182 :: u183 :: u184 :: u185 :: u186 :: u187 :: u188 :: u189 :: u190 :: u191 :: u192 :: u193 :: u194 :: u195 :: u196 :: u197 :: u198 :: u199 :: u200 :: u201 :: u202 :: u203 :: u204 :: u205 :: u206 :: u207 :: u208 :: u209 :: u210 :: u211 :: u212 :: u213 :: u214 :: u215 :: u216 :: u217 :: u218 :: u219 :: u220 :: u221 :: u222 :: u223 :: u224 :: u225 :: u226 :: u227 :: u228 :: u229 :: u230 :: u231 :: u232 :: u233 :: u234 :: u235 :: u236 :: u237 :: u238 :: u239 :: u240 :: u241 :: u242 :: u243 :: u244 :: u245 :: u246 :: u247 :: []), []⟩ w := by
  go_step
  refine wp_drop 3 (Try.f6.body.getD .skip) (by kernel_rfl) (fun K hK => ?_)
  conv => arg 2; whnf
  go_wp2_with fail
  go_loopw [3] (fun i wr => ∃ t : Nat, t ≤ n ∧ i = .int .i64 t ∧ (∀ j, j < t → okLab (c j)) ∧ Below w.heap.size w wr) (fun i _ => n - (intOf i).toNat)
  case atStart => exact ⟨0, Nat.zero_le _, rfl, fun j hj => by omega, Below.refl _ _⟩
  case round =>
    obtain ⟨t, ht, rfl, hok, hbel⟩ := hrel
    have HOK : Hid _ := hok
    clear hok
    by_cases hlt : t < n
    · have hlt' : (t : Int) < n := by omega
      have xl := (iL.below (hW.trans (hbel.mono hW.size))).cell t hlt
      obtain rfl := iL.ad (by omega)
      obtain ⟨x, hx⟩ : ∃ x, x = c t := ⟨_, rfl⟩
      rw [← hx] at xl
      have e0 := xl.c0
      have e1 := xl.c1
      have e2 := xl.c2
      have HX : Hid _ := hx
      clear hx xl iL
      cases n1 : (FloatKind.f64.format.order x.wt x.wt != some .eq) with
      | true =>
        go_wp2_with fail
        go_quiet (fail)
        go_wp2
        go_ret
        exact ⟨rfl, below_drewN (hW.trans (hbel.mono hW.size)) _⟩
      | false =>
        cases n2 : (FloatKind.f64.format.order x.lo x.lo != some .eq) with
        | true =>
          go_wp2_with fail
          go_quiet (fail)
          go_wp2
          go_ret
          exact ⟨rfl, below_drewN (hW.trans (hbel.mono hW.size)) _⟩
        | false =>
          cases n3 : (FloatKind.f64.format.order x.de x.de != some .eq) with
          | true =>
            go_wp2_with fail
            go_quiet (fail)
            go_wp2
            go_ret
            exact ⟨rfl, below_drewN (hW.trans (hbel.mono hW.size)) _⟩
          | false =>
            go_wp2_with fail
            go_quiet (fail)
            go_wp2
            go_roundw
            case rel => exact ⟨t + 1, by omega, by go_num, fun j hj => by
    by_cases hjt : j < t
    · exact HOK.out j hjt
    · obtain rfl : j = t := by omega
      rw [← HX.out]
      have h1 := ne_nan x.wt
      have h2 := ne_nan x.lo
      have h3 := ne_nan x.de
      rw [n1] at h1
      rw [n2] at h2
      rw [n3] at h3
      exact ⟨h1.symm, h2.symm, h3.symm⟩, below_drewN hbel _⟩
            case measure => simp [intOf]; omega
    · obtain rfl : n = t := by omega
      go_wp2
      have hall : ∀ s, okLab (c s) := fun s => by
        by_cases hs : s < n
        · exact HOK.out s hs
        · exact hbig s (by omega)
      exact f6_tail4 c d (hW.trans (hbel.mono hW.size)) bn iL (fun s => asGoodB_refl (hall s)) (fun a b e h1 h2 => asGoodB_trans (hall a) (hall b) (hall e) h1 h2)

set_option maxRecDepth 100000 in
theorem zzBytes26 (aL : Option Addr) (nl cL : Nat) (w : World) (hl : nl ≤ 9223372036854775807) :
    Calls Try.prog 26 #[.slice aL nl cL] w fun e w' => (∃ b, e = .returned (.bool b)) ∧ Below w.heap.size w w' := by
  go_enter Try.func26, Try.ntmps26
  go_wp2
  all_goals (go_ret; exact ⟨⟨_, rfl⟩, Below.refl _ _⟩)

set_option maxRecDepth 100000 in
set_option maxHeartbeats 3200000 in
theorem script_walk (aL : Option Addr) (n cL bL oL : Nat) (c : Nat → Lab) (d : Lab) (w : World) (hl : n ≤ 9223372036854775807) (iL : LabsF w aL n bL oL c) (hbig : ∀ s, n ≤ s → okLab (c s)) :
    Calls Try.prog 6 #[.slice aL n cL] w fun e w' => e = .returned (.bool true) ∧ Below w.heap.size w w' := by
  go_enter Try.func6, Try.ntmps6
  change Code.wp Try.prog (dropSeq 0 (Try.f6.body.getD .skip)) _ _ _
  go_step
  refine wp_drop 0 (Try.f6.body.getD .skip) (by kernel_rfl) (fun K hK => ?_)
  conv => arg 2; whnf
  go_wp2
  refine wp_drop 1 (Try.f6.body.getD .skip) (by kernel_rfl) (fun K hK => ?_)
  conv => arg 2; whnf
  go_wp2_with (go_at_call 26; go_must (refine (zzBytes26 _ _ _ _ hl).mono ?_); rintro e wx ⟨⟨b, rfl⟩, hb⟩)
  · go_ret
    exact ⟨rfl, hb⟩
  · by_cases hg : n ≤ 1024
    ·
      refine wp_drop 2 (Try.f6.body.getD .skip) (by kernel_rfl) (fun K hK => ?_)
      conv => arg 2; whnf
      go_wp2
      exact f6_tail3 c d hb hg iL hbig
    ·
      refine wp_drop 2 (Try.f6.body.getD .skip) (by kernel_rfl) (fun K hK => ?_)
      conv => arg 2; whnf
      go_wp2
      go_ret
      exact ⟨rfl, hb⟩
end Go.Proofs.Qxb6601457a
