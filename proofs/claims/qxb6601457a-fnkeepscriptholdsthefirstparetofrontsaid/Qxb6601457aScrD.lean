import Derived.Test.Qxb6601457aScrC
import Derived.Test.Qxb6601457aSeq
import Derived.Test.Qxb6601457aMake
import Derived.BigQuiet
namespace Go.Proofs.Qxb6601457a
set_option linter.unusedSimpArgs false
set_option linter.unusedVariables false
open Go.RowKit Go.Sort
attribute [local go_sem] run_store_float

theorem Try.info4 : (Try.prog.info? 4).map (fun i => (i.zero, i.size, i.bytes)) = some (some (.bool false), 1, 1) := by kernel_rfl

theorem range_map_set (n k : Nat) (f : Nat → Value) (v : Value) : ((List.range n).map f).set k v = (List.range n).map fun j => if j = k then v else f j := by
  apply List.ext_getElem?
  intro j
  rw [List.getElem?_set]
  by_cases hj : j < n
  · by_cases hk : k = j
    · subst hk; simp [hj]
    · have : ¬ j = k := fun e => hk e.symm
      simp [hj, hk, this]
  · by_cases hk : k = j
    · subst hk; simp [hj]
    · simp [hj, hk]

theorem range_map_at (n j : Nat) (f : Nat → Value) (h : j < n) : ((List.range n).map f)[j]? = some (f j) := by simp [h]

def accRow (c : Nat → Lab) (n t : Nat) (b : Bool) : List Value := (List.range n).map fun j => if j = t then .bool b else .bool (decide (j < t) && accB c j)
def numRow (c : Nat → Lab) (n t : Nat) : List Value := (List.range n).map fun j => .int .i64 (if j < t ∧ accB c j = true then (numN c j : Int) else 0)
def accP (c : Nat → Lab) (t s : Nat) : Bool := (List.range s).all fun s' => !asGoodB (c s') (c t)

theorem accRow_set (c : Nat → Lab) (n t : Nat) (b b' : Bool) : (accRow c n t b).set t (.bool b') = accRow c n t b' := by
  unfold accRow
  rw [range_map_set]
  apply List.map_congr_left
  intro j _
  by_cases h : j = t <;> simp [h]

theorem accRow_zero (c : Nat → Lab) (n : Nat) : List.replicate n (Value.bool false) = accRow c n 0 false := by
  unfold accRow
  apply List.ext_getElem?
  intro j
  by_cases hj : j < n
  · simp [hj]
  · simp [hj]

theorem accRow_next (c : Nat → Lab) (n t : Nat) : accRow c n t (accB c t) = accRow c n (t + 1) false := by
  unfold accRow
  apply List.map_congr_left
  intro j _
  by_cases h : j = t
  · subst h; simp
  · by_cases h1 : j = t + 1
    · subst h1
      have h2 : ¬ t + 1 < t := by omega
      simp [h2]
    · have e : decide (j < t) = decide (j < t + 1) := by
        apply decide_eq_decide.2; omega
      simp [h, h1, e]

theorem numRow_zero (c : Nat → Lab) (n : Nat) : List.replicate n (Value.int .i64 0) = numRow c n 0 := by
  unfold numRow
  apply List.ext_getElem?
  intro j
  by_cases hj : j < n <;> simp [hj]

theorem numRow_skip (c : Nat → Lab) (n t : Nat) (ha : accB c t = false) : numRow c n (t + 1) = numRow c n t := by
  unfold numRow
  apply List.map_congr_left
  intro j _
  by_cases h : j = t
  · subst h; simp [ha]
  · have e : (j < t + 1 ∧ accB c j = true) ↔ (j < t ∧ accB c j = true) := by
      constructor <;> rintro ⟨h1, h2⟩ <;> exact ⟨by omega, h2⟩
    simp only [e]

theorem numRow_take (c : Nat → Lab) (n t : Nat) (ha : accB c t = true) : (numRow c n t).set t (.int .i64 (numN c t : Nat)) = numRow c n (t + 1) := by
  unfold numRow
  rw [range_map_set]
  apply List.map_congr_left
  intro j _
  by_cases h : j = t
  · subst h; simp [ha]
  · have e : (j < t + 1 ∧ accB c j = true) ↔ (j < t ∧ accB c j = true) := by
      constructor <;> rintro ⟨h1, h2⟩ <;> exact ⟨by omega, h2⟩
    simp only [h, e, if_false]

theorem accP_succ (c : Nat → Lab) (t s : Nat) : accP c t (s + 1) = (accP c t s && !asGoodB (c s) (c t)) := by
  unfold accP
  rw [List.range_succ, List.all_append]
  simp

theorem accP_full (c : Nat → Lab) (t : Nat) : accP c t t = accB c t := rfl

theorem Own.far {w : World} {e : TypeId} {size g n cap : Nat} {cs : List Value} (h : Own w e size (.slice (some ⟨g, 0, none⟩) n cap) n cap cs) {b : Nat} (hne : g ≠ b) (j : Nat) (u : Value) : Own (w.setCell ⟨b, j, none⟩ u) e size (.slice (some ⟨g, 0, none⟩) n cap) n cap cs := by
  refine h.move fun g' hg => Below.heap_setCell _ _ _ _ (fun e => ?_)
  have h1 : g = g' := by simpa [Value.ownBlock] using hg
  have h2 : g' = b := e
  exact hne (h1.trans h2)

theorem Own.butFar {S : Nat → Prop} {w w' : World} {e : TypeId} {size g n cap : Nat} {cs : List Value} (h : Own w e size (.slice (some ⟨g, 0, none⟩) n cap) n cap cs) (hb : But S w w') (hn : ¬ S g) : Own w' e size (.slice (some ⟨g, 0, none⟩) n cap) n cap cs := by
  refine h.but hb (fun k hk hg => ?_)
  have h1 : g = k := by simpa [Value.ownBlock] using hg
  exact hn (h1 ▸ hk)

theorem madeCells_bools (n : Nat) : (madeCells (Value.bool false).cells (n * 1)).toList = List.replicate n (Value.bool false) := by
  rw [Nat.mul_one]; exact toList_madeCells_one _ _


set_option maxRecDepth 100000 in
set_option maxHeartbeats 3200000 in
theorem f6_tail10 {u1 u2 u3 u5 u8 u9 u10 u11 u12 u13 u14 u15 u16 u17 u18 u19 u20 u21 u22 u23 u24 u25 u26 u27 u28 u29 u30 u31 u32 u33 u34 u35 u36 u37 u38 u39 u40 u41 u42 u43 u44 u45 u46 u47 u48 u49 u50 u51 u52 u53 u54 u55 u56 u57 u58 u59 u60 u61 u62 u63 u64 u65 u66 u67 u68 u69 u70 u71 u72 u73 u74 u75 u76 u77 u78 u79 u80 u81 u82 u83 u84 u85 u86 u87 u88 u89 u90 u91 u92 u93 u94 u95 u96 u97 u98 u99 u100 u101 u102 u103 u104 u105 u106 u107 u108 u109 u110 u111 u112 u113 u114 u115 u116 u117 u118 u119 u120 u121 u122 u123 u124 u125 u126 u127 u128 u129 u130 u131 u132 u133 u134 u135 u136 u137 u138 u139 u140 u141 u142 u143 u144 u145 u146 u147 u148 u149 u150 u151 u152 u153 u154 u155 u156 u157 u158 u159 u160 u161 u162 u163 u164 u165 u166 u167 u168 u169 u170 u171 u172 u173 u174 u175 u176 u177 u178 u179 u180 u181 u182 u183 u184 u185 u186 u187 u188 u189 u190 u191 u192 u193 u194 u195 u196 u197 u198 u199 u200 u201 u202 u203 u204 u205 u206 u207 u208 u209 u210 u211 u212 u213 u214 u215 u216 u217 u218 u219 u220 u221 u222 u223 u224 u225 u226 u227 u228 u229 u230 u231 u232 u233 u234 u235 u236 u237 u238 u239 u240 u241 u242 u243 u244 u245 u246 u247 : Value} {W0 w : World} {aS aK aL aG : Option Addr} {n cS m cK cL cnt gS gK bL oL pw gG cG : Nat} (c : Nat → Lab)
    (hW : Below W0.heap.size W0 w) (bn : n ≤ 1024) (iS : LabsF w aS n gS 0 c)
    (hcnt : cnt = numN c n) (hm : m = (expU c n n).length) (iK : Ints w aK m gK 0 (natInts (expU c n n)))
    (iL : LabsF W0 aL n bL oL c) (c0 : w.cell? ⟨pw, 0, none⟩ = some (.slice aG cnt cG)) (haG : 0 < cnt → aG = some ⟨gG, 0, none⟩) (hG : ∀ j, j < n → accB c j = true → LabAt w gG (numN c j * 6) (c j)) :
    Code.wp Try.prog (dropSeq 10 (Try.f6.body.getD .skip)) (bodyPost Try.prog Try.f6 fun e w' => e = .returned (.bool true) ∧ Below W0.heap.size W0 w')
      ⟨List.toArray ((.slice aL n cL) :: u1 :: u2 :: u3 :: (.slice aS n cS) :: u5 :: (.pointer (some ⟨pw, 0, none⟩)) :: (.slice aK m cK) :: u8 :: u9 :: u10 :: u11 :: u12 :: u13 :: u14 :: u15 :: u16 :: u17 :: u18 :: u19 :: u20 :: u21 :: u22 :: u23 :: u24 :: u25 :: u26 :: u27 :: u28 :: u29 :: u30 :: u31 :: u32 :: u33 :: u34 :: u35 :: u36 :: u37 :: u38 :: u39 :: u40 :: u41 :: u42 :: u43 :: u44 :: u45 :: u46 :: u47 :: u48 :: u49 :: u50 :: u51 :: u52 :: u53 :: u54 :: u55 :: u56 :: u57 :: u58 :: u59 :: u60 :: u61 :: u62 :: u63 :: u64 :: u65 :: u66 :: u67 :: u68 :: u69 :: u70 :: u71 :: u72 :: u73 :: u74 :: u75 :: u76 :: u77 :: u78 :: u79 :: u80 :: u81 :: u82 :: u83 :: u84 :: u85 :: u86 :: u87 :: u88 :: u89 :: u90 :: u91 :: u92 :: u93 :: u94 :: u95 :: u96 :: u97 :: u98 :: u99 :: u100 :: u101 :: u102 :: u103 :: u104 :: u105 :: u106 :: u107 :: u108 :: u109 :: u110 :: u111 :: u112 :: u113 :: u114 :: u115 :: u116 :: u117 :: u118 :: u119 :: u120 :: u121 :: u122 :: u123 :: u124 :: u125 :: u126 :: u127 :: u128 :: u129 :: u130 :: u131 :: u132 :: u133 :: u134 :: u135 :: u136 :: u137 :: u138 :: u139 :: u140 :: u141 :: u142 :: u143 :: u144 :: u145 :: u146 :: u147 :: u148 :: u149 :: u150 :: u151 :: u152 :: u153 :: u154 :: u155 :: u156 :: u157 :: u158 :: u159 :: u160 :: u161 :: u162 :: u163 :: u164 :: u165 :: u166 :: u167 :: u168 :: u169 :: u170 :: u171 :: u172 :: u173 :: u174 :: u175 :: u176 :: u177 :: u178 :: u179 :: u180 :: u181 :: u182 :: u183 :: u184 :: u185 :: u186 :: u187 :: u188 :: u189 :: u190 :: u191 :: u192 :: u193 :: u194 :: u195 :: u196 :: u197 :: u198 :: u199 :: u200 :: u201 :: u202 :: u203 :: u204 :: u205 :: u206 :: u207 :: u208 :: u209 :: u210 :: u211 :: u212 :: u213 :: u214 :: u215 :: u216 :: u217 :: u218 :: u219 :: u220 :: u221 :: u222 :: u223 :: u224 :: u225 :: u226 :: u227 :: u228 :: u229 :: u230 :: u231 :: u232 :: u233 :: u234 :: u235 :: u236 :: u237 :: u238 :: u239 :: u240 :: u241 :: u242 :: u243 :: u244 :: u245 :: u246 :: u247 :: []), []⟩ w := by
  obtain ⟨i3, hi3, hy0, hy1, hy2⟩ := info_parts Try.info3
  obtain ⟨i4, hi4, hx0, hx1, hx2⟩ := info_parts Try.info4
  have HC : Hid _ := hcnt
  have HM : Hid _ := hm
  clear hcnt hm
  go_step
  refine wp_drop 10 (Try.f6.body.getD .skip) (by kernel_rfl) (fun K hK => ?_)
  conv => arg 2; whnf
  go_wp2_with (at_make; go_must (refine wpList_make_exact _ rfl _ _ 56 rfl 4 i4 (.bool false) 1 Try.underlying56 hi4 hx0 hx1 .i64 .i64 _ _ n n rfl rfl rfl rfl (Nat.le_refl _) (by rw [hx2]; omega) (by unfold maxLen; omega) ?_))
  refine wp_drop 11 (Try.f6.body.getD .skip) (by kernel_rfl) (fun K hK => ?_)
  conv => arg 2; whnf
  go_wp2_with (at_make; go_must (refine wpList_make_exact _ rfl _ _ 39 rfl 3 i3 (.int .i64 0) 1 Try.underlying39 hi3 hy0 hy1 .i64 .i64 _ _ n n rfl rfl rfl rfl (Nat.le_refl _) (by rw [hy2]; omega) (by unfold maxLen; omega) ?_))
  refine wp_drop 12 (Try.f6.body.getD .skip) (by kernel_rfl) (fun K hK => ?_)
  conv => arg 2; whnf
  go_wp2
  refine wp_drop 13 (Try.f6.body.getD .skip) (by kernel_rfl) (fun K hK => ?_)
  conv => arg 2; whnf
  go_wp2_with fail
  have hmA := Own.made w 4 1 n n (Value.bool false).cells (Nat.le_refl _) (by unfold maxLen; omega)
  rw [madeCells_bools, accRow_zero c] at hmA
  have hmN := Own.made (w.alloc (.cells (madeCells (Value.bool false).cells (n * 1)) 4)) 3 1 n n (Value.int .i64 0).cells (Nat.le_refl _) (by unfold maxLen; omega)
  rw [madeCells_ints, numRow_zero c] at hmN
  have hmA2 := hmA.below ((Below.refl _ _).alloc (Nat.le_refl _) (.cells (madeCells (Value.int .i64 0).cells (n * 1)) 3))
  clear hmA
  go_loopw [12, 13] (fun k i wr => ∃ t : Nat, t ≤ n ∧ i = .int .i64 t ∧ k = .int .i64 (numN c t : Nat) ∧ Own wr 4 1 (.slice (some ⟨w.heap.size, 0, none⟩) n n) n n (accRow c n t false) ∧ Own wr 3 1 (.slice (some ⟨w.heap.size + 1, 0, none⟩) n n) n n (numRow c n t) ∧ Below w.heap.size w wr) (fun _ i _ => n - (intOf i).toNat)
  case atStart => exact ⟨0, Nat.zero_le _, rfl, rfl, by simpa [Value.cells] using hmA2, by simpa [Value.cells] using hmN, ((Below.refl _ _).alloc (Nat.le_refl _) _).alloc (by simp) _⟩
  case round =>
    clear hmA2 hmN
    obtain ⟨t, ht, rfl, rfl, hoA, hoN, hbel⟩ := hrel
    by_cases hlt : t < n
    · have hlt' : (t : Int) < n := by omega
      have hnt := numN_le c t
      obtain rfl := iS.ad (by omega)
      have hSr := iS.below hbel
      have iSlt : ∀ j, j < n → gS < w.heap.size := fun j hj => (iS.cell j hj).lt
      have cA : wr.cell? ⟨w.heap.size, t, none⟩ = some (.bool false) := by rw [hoA.cell t]; unfold accRow; rw [range_map_at n t _ hlt]; simp
      have fA := hoA.frozen t
      have hoA1 := hoA.stored t (.bool true)
      rw [accRow_set] at hoA1
      have hoN1 : Own (wr.setCell ⟨w.heap.size, t, none⟩ (.bool true)) 3 1 (.slice (some ⟨w.heap.size + 1, 0, none⟩) n n) n n (numRow c n t) := hoN.far (by omega) _ _
      have hbel1 : Below w.heap.size w (wr.setCell ⟨w.heap.size, t, none⟩ (.bool true)) := hbel.setCell (Nat.le_refl _) _
      have hSr1 : LabsF (wr.setCell ⟨w.heap.size, t, none⟩ (.bool true)) (some ⟨gS, 0, none⟩) n gS 0 c := iS.below hbel1
      clear hoA hoN hbel hSr iS iK HM HC hW iL c0 haG hG
      go_wp2_with fail
      generalize (wr.setCell ⟨w.heap.size, t, none⟩ (.bool true)) = wo at *
      clear cA fA
      go_loopw [14] (fun j wi => ∃ q : Nat, q ≤ t ∧ j = .int .i64 q ∧ Own wi 4 1 (.slice (some ⟨w.heap.size, 0, none⟩) n n) n n (accRow c n t (accP c t q)) ∧ But (fun k => k = w.heap.size) wo wi) (fun j _ => t - (intOf j).toNat)
      case atStart => exact ⟨0, Nat.zero_le _, rfl, hoA1, But.refl _ _⟩
      case round =>
        obtain ⟨q, hq, rfl, hoi, hbi⟩ := hrel
        have hSi : LabsF wr (some ⟨gS, 0, none⟩) n gS 0 c := ⟨fun _ => rfl, fun j hj => (hSr1.cell j hj).but hbi (fun e => by
          have h1 := iSlt j hj
          omega)⟩
        by_cases hlq : q < t
        · have hqn : q < n := by omega
          have hqn' : (q : Int) < n := by omega
          have lq := hSi.cell0 q hqn
          have lt := hSi.cell0 t hlt
          have hps := accP_succ c t q
          obtain ⟨xq, hxq⟩ : ∃ x, x = c q := ⟨_, rfl⟩
          obtain ⟨xt, hxt⟩ : ∃ x, x = c t := ⟨_, rfl⟩
          rw [← hxq, ← hxt] at hps
          rw [← hxq] at lq
          rw [← hxt] at lt
          have e0 : ∀ d os, (grow (redrawn wr d) os).cell? ⟨gS, q * 6, none⟩ = some (.float .f64 xq.wt) := fun d os => (lq.regrown d os).c0
          have e1 : ∀ d os, (grow (redrawn wr d) os).cell? ⟨gS, q * 6 + 1, none⟩ = some (.float .f64 xq.lo) := fun d os => (lq.regrown d os).c1
          have e2 : ∀ d os, (grow (redrawn wr d) os).cell? ⟨gS, q * 6 + 2, none⟩ = some (.float .f64 xq.de) := fun d os => (lq.regrown d os).c2
          have e3 : ∀ d os, (grow (redrawn wr d) os).cell? ⟨gS, q * 6 + 3, none⟩ = some (.int .i64 xq.ho) := fun d os => (lq.regrown d os).c3
          have e4 : ∀ d os, (grow (redrawn wr d) os).cell? ⟨gS, q * 6 + 4, none⟩ = some (.int .i64 xq.st) := fun d os => (lq.regrown d os).c4
          have e5 : ∀ d os, (grow (redrawn wr d) os).cell? ⟨gS, q * 6 + 5, none⟩ = some (.int .i64 xq.pr) := fun d os => (lq.regrown d os).c5
          have b0 : ∀ d os, (grow (redrawn wr d) os).cell? ⟨gS, t * 6, none⟩ = some (.float .f64 xt.wt) := fun d os => (lt.regrown d os).c0
          have b1 : ∀ d os, (grow (redrawn wr d) os).cell? ⟨gS, t * 6 + 1, none⟩ = some (.float .f64 xt.lo) := fun d os => (lt.regrown d os).c1
          have b2 : ∀ d os, (grow (redrawn wr d) os).cell? ⟨gS, t * 6 + 2, none⟩ = some (.float .f64 xt.de) := fun d os => (lt.regrown d os).c2
          have b3 : ∀ d os, (grow (redrawn wr d) os).cell? ⟨gS, t * 6 + 3, none⟩ = some (.int .i64 xt.ho) := fun d os => (lt.regrown d os).c3
          have b4 : ∀ d os, (grow (redrawn wr d) os).cell? ⟨gS, t * 6 + 4, none⟩ = some (.int .i64 xt.st) := fun d os => (lt.regrown d os).c4
          have b5 : ∀ d os, (grow (redrawn wr d) os).cell? ⟨gS, t * 6 + 5, none⟩ = some (.int .i64 xt.pr) := fun d os => (lt.regrown d os).c5
          clear lq lt hxq hxt hSi
          by_cases hg : asGoodB xq xt = true
          · rw [hg, Bool.not_true, Bool.and_false] at hps
            have HPS : Hid _ := hps
            generalize accP c t q = pq at *
            clear hps
            go_wp2_with fail
            refine wp_region_quiet_below (by kernel_rfl) (by kernel_rfl) ?_
            repeat (first | go_big_quiet_step (((go_at_call 21; exact Calls.regrown_of (zzAsGood_eq _ _ _ hg _)))) | quiet_step (((go_at_call 21; exact Calls.regrown_of (zzAsGood_eq _ _ _ hg _)))))
            refine wpQuiet_nil ?_
            intro _ hw'
            obtain ⟨⟨dq, osq⟩, hw''⟩ := hw'
            subst hw''
            have hbw := below_regrown wr dq osq
            have hoq := hoi.below hbw
            generalize grow (redrawn wr dq) osq = wq at *
            clear e0 e1 e2 e3 e4 e5 b0 b1 b2 b3 b4 b5
            have cQ : wq.cell? ⟨w.heap.size, t, none⟩ = some (.bool pq) := by rw [hoq.cell t]; unfold accRow; rw [range_map_at n t _ hlt]; simp
            have fQ := hoq.frozen t
            have hos := hoq.stored t (.bool false)
            rw [accRow_set] at hos
            have hbs : But (fun k => k = w.heap.size) wo (wq.setCell ⟨w.heap.size, t, none⟩ (.bool false)) := (hbi.trans (But.of_below hbw)).setCell (.inl rfl) _
            clear hoq hoi
            go_wp2
            go_roundw
            case rel => exact ⟨q + 1, by omega, by go_num, by rw [HPS.out]; exact hos, hbs⟩
            case measure => simp [intOf]; omega
          · have hg' : asGoodB xq xt = false := by simpa using hg
            rw [hg', Bool.not_false, Bool.and_true] at hps
            have HPS : Hid _ := hps
            generalize accP c t q = pq at *
            clear hps hg
            go_wp2_with fail
            refine wp_region_quiet_below (by kernel_rfl) (by kernel_rfl) ?_
            repeat (first | go_big_quiet_step (((go_at_call 21; exact Calls.regrown_of (zzAsGood_eq _ _ _ hg' _)))) | quiet_step (((go_at_call 21; exact Calls.regrown_of (zzAsGood_eq _ _ _ hg' _)))))
            refine wpQuiet_nil ?_
            intro _ hw'
            obtain ⟨⟨dq, osq⟩, hw''⟩ := hw'
            subst hw''
            have hbw := below_regrown wr dq osq
            have hoq := hoi.below hbw
            generalize grow (redrawn wr dq) osq = wq at *
            clear e0 e1 e2 e3 e4 e5 b0 b1 b2 b3 b4 b5
            go_wp2
            go_roundw
            case rel => exact ⟨q + 1, by omega, by go_num, by rw [HPS.out]; exact hoq, hbi.trans (But.of_below hbw)⟩
            case measure => simp [intOf]; omega
        · obtain rfl : t = q := by omega
          rw [accP_full] at hoi
          have hni : Own wr 3 1 (.slice (some ⟨w.heap.size + 1, 0, none⟩) n n) n n (numRow c n t) := hoN1.butFar hbi (by omega)
          have hbo : Below w.heap.size w wr := hbel1.trans (hbi.below (B := w.heap.size) hbel1.size (fun k e => by omega))
          have cA : wr.cell? ⟨w.heap.size, t, none⟩ = some (.bool (accB c t)) := by rw [hoi.cell t]; unfold accRow; rw [range_map_at n t _ hlt]; simp
          have hnx := accRow_next c n t
          cases hacc : accB c t with
          | false =>
            rw [hacc] at hoi cA hnx
            have hns := numN_succ c t
            rw [hacc, if_neg (by decide), Nat.add_zero] at hns
            have hnr := numRow_skip c n t hacc
            rw [hnx] at hoi
            have HNS : Hid _ := hns
            have HNR : Hid _ := hnr
            clear hns hnr hacc hSi hSr1 hoA1 hoN1 hnx
            go_wp2
            go_roundw
            case rel => exact ⟨t + 1, by omega, by go_num, congrArg (fun k : Nat => Value.int .i64 (k : Int)) (HNS.out.symm : _ = numN c (t + 1)), hoi, by rw [HNR.out]; exact hni, hbo⟩
            case measure => simp [intOf]; omega
          | true =>
            rw [hacc] at hoi cA hnx
            have hns := numN_succ c t
            rw [hacc, if_pos rfl] at hns
            have hnr := numRow_take c n t hacc
            rw [hnx] at hoi
            have HNS : Hid _ := hns
            have cN : wr.cell? ⟨w.heap.size + 1, t, none⟩ = some (.int .i64 (if t < t ∧ accB c t = true then (numN c t : Int) else 0)) := by rw [hni.cell t]; unfold numRow; rw [range_map_at n t _ hlt]
            rw [if_neg (by omega)] at cN
            have fN := hni.frozen t
            have hns2 := hni.stored t (.int .i64 (numN c t : Nat))
            rw [hnr] at hns2
            have hoA2 : Own (wr.setCell ⟨w.heap.size + 1, t, none⟩ (.int .i64 (numN c t : Nat))) 4 1 (.slice (some ⟨w.heap.size, 0, none⟩) n n) n n (accRow c n (t + 1) false) := hoi.far (by omega) _ _
            have hbo2 : Below w.heap.size w (wr.setCell ⟨w.heap.size + 1, t, none⟩ (.int .i64 (numN c t : Nat))) := hbo.setCell (by simp) _
            generalize numN c t = q at *
            clear hns hnr hacc hSi hSr1 hoA1 hoN1 hni hoi hnx
            go_wp2
            go_roundw
            case rel => exact ⟨t + 1, by omega, by go_num, by rw [HNS.out]; go_num, hoA2, hns2, hbo2⟩
            case measure => simp [intOf]; omega
    · obtain rfl : n = t := by omega
      rw [← HC.out]
      go_wp2
      exact f6_tail14 (gA := w.heap.size) (gN := w.heap.size + 1) c (hW.trans (hbel.mono hW.size)) bn (iS.below hbel)
        ⟨fun _ => rfl, fun j hj _ => by
          rw [hoA.cell j]; unfold accRow; rw [range_map_at n j _ hj]
          have : ¬ j = n := by omega
          simp [this, hj]⟩
        ⟨fun _ => rfl, fun j hj ha => by
          rw [hoN.cell j]; unfold numRow; rw [range_map_at n j _ hj]
          rw [if_pos ⟨hj, ha⟩]⟩
        HC.out HM.out (iK.below hbel) iL (cell_later hbel c0) haG (fun j hj ha => (hG j hj ha).below hbel)
end Go.Proofs.Qxb6601457a
