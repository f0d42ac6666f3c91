import Derived.Test.Qxb6601457aScrD
import Derived.Test.Qxb6601457aSeq
import Derived.BigQuiet
namespace Go.Proofs.Qxb6601457a
set_option linter.unusedSimpArgs false
set_option linter.unusedVariables false
open Go.RowKit Go.Sort
attribute [local go_sem] run_store_float

theorem Own.addr {w : World} {e : TypeId} {size n cap : Nat} {ao : Option Addr} {cs : List Value} (h : Own w e size (.slice ao n cap) n cap cs) (hn : 0 < n) : ∃ g, ao = some ⟨g, 0, none⟩ := by
  rcases h.2.2.2 with ⟨h', h0, _⟩ | ⟨g, h', _⟩
  · omega
  · simp only [Value.slice.injEq, and_true] at h'
    exact ⟨g, h'⟩

theorem Own.form {w : World} {e : TypeId} {size n cap : Nat} {v : Value} {cs : List Value} (h : Own w e size v n cap cs) : ∃ ao, v = .slice ao n cap := by
  rcases h.2.2.2 with ⟨h', h0, h1⟩ | ⟨g, h', _⟩
  · exact ⟨none, by rw [h', h0, h1]⟩
  · exact ⟨_, h'⟩

/-- The state of the script's search behind t offers. -/
structure ScrSt (c : Nat → Lab) (w wr : World) (t : Nat) (al ak : Option Addr) (capl capk : Nat) (csl csk : List Value) : Prop where
  ptr : wr.heap[w.heap.size]? = some (.cells #[.slice al (numN c t) capl, .int .i64 (wantN c t : Nat)] 64 (0, 0))
  lab : Own wr 45 6 (.slice al (numN c t) capl) (numN c t) capl csl
  ltk : csl.take (numN c t * 6) = flat (labsN c t)
  kep : Own wr 3 1 (.slice ak (expU c t t).length capk) (expU c t t).length capk csk
  ktk : csk.take (expU c t t).length = (expU c t t).map intv
  lloc : ∀ g, (Value.slice al (numN c t) capl).ownBlock = some g → w.heap.size ≤ g
  kloc : ∀ g, (Value.slice ak (expU c t t).length capk).ownBlock = some g → w.heap.size ≤ g
  bel : Below w.heap.size w wr

theorem wrap_want {c : Nat → Lab} {t : Nat} (ht : t ≤ 1024) : wrap64 ((wantN c t : Nat) + ((expU c t t).length : Nat) : Int) = ((wantN c (t + 1) : Nat) : Int) := by
  have h1 := wantN_le (c := c) (t + 1)
  have h2 : (t + 1) * (t + 1) ≤ 1025 * 1025 := Nat.mul_le_mul (by omega) (by omega)
  have h3 := wantN_succ (c := c) t
  rw [IntWalk.wrap64_in _ ⟨by omega, by omega⟩]
  omega

/-- One offer that is not taken. -/
theorem ScrSt.hit {c : Nat → Lab} {w wr wq wz : World} {t : Nat} {al ak : Option Addr} {capl capk : Nat} {csl csk : List Value} (h : ScrSt c w wr t al ak capl capk csl csk) (ht : t < 1024) (ha : accB c t = false) (hq : Below wr.heap.size wr wq)
    (hp : wz.heap[w.heap.size]? = some (.cells #[.slice al (numN c t) capl, .int .i64 (wrap64 ((wantN c t : Nat) + ((expU c t t).length : Nat)))] 64 (0, 0))) (hb : But (fun k => k = w.heap.size) wq wz) :
    ScrSt c w wz (t + 1) al ak capl capk csl csk := by
  have hn : numN c (t + 1) = numN c t := by rw [numN_succ, if_neg (by rw [ha]; decide)]; rfl
  have he := expU_miss ha
  have hl : labsN c (t + 1) = labsN c t := by rw [labsN_succ, if_neg (by rw [ha]; decide), List.append_nil]
  have hpq : wq.heap[w.heap.size]? = _ := (hq.block _ (Array.getElem?_eq_some_iff.1 h.ptr).1).trans h.ptr
  have hlq := h.lab.below hq
  have hkq := h.kep.below hq
  refine ⟨?_, ?_, ?_, ?_, ?_, ?_, ?_, ?_⟩
  · rw [hp, hn, wrap_want (by omega)]
  · rw [hn]; exact hlq.but hb (fun k e => e ▸ hlq.ne hpq (by decide))
  · rw [hn, hl]; exact h.ltk
  · rw [he]; exact hkq.but hb (fun k e => e ▸ hkq.ne hpq (by decide))
  · rw [he]; exact h.ktk
  · rw [hn]; exact h.lloc
  · rw [he]; exact h.kloc
  · have hs1 := h.bel.size
    have hs2 := hq.size
    exact (h.bel.trans (hq.mono hs1)).trans (hb.below (B := w.heap.size) (by omega) (fun k e => by omega))

/-- One offer that is taken. -/
theorem ScrSt.miss {c : Nat → Lab} {d : Lab} {w wr wq wz : World} {t : Nat} {al ak : Option Addr} {capl capk : Nat} {csl csk : List Value} (h : ScrSt c w wr t al ak capl capk csl csk) (ht : t < 1024) (ha : accB c t = true) (hq : Below wr.heap.size wr wq)
    {gl' capl' : Nat} {csl' : List Value} {gk capk' : Nat} {csk' : List Value}
    (hp : KeepPost wq w.heap.size (.slice al (numN c t) capl) (.slice ak (expU c t t).length capk) (wantN c t : Nat) (numN c t) (expU c t t).length capk csl csk (c t) (leftL (labsN c t) d (c t) (expU c t t)) gl' capl' csl' gk capk' csk' wz) :
    ScrSt c w wz (t + 1) (some ⟨gl', 0, none⟩) (some ⟨gk, 0, none⟩) capl' capk' csl' csk' := by
  have hn : numN c (t + 1) = numN c t + 1 := by rw [numN_succ, if_pos ha]
  have he := expU_take d ha
  have hel : (expU c (t + 1) (t + 1)).length = (leftL (labsN c t) d (c t) (expU c t t)).length + 1 := by rw [he]; simp
  have hl : labsN c (t + 1) = labsN c t ++ [c t] := by rw [labsN_succ, if_pos ha]
  have hs1 := h.bel.size
  have hs2 := hq.size
  have gl0 : w.heap.size ≤ gl' := by
    rcases hp.lloc with hh | hh
    · exact h.lloc _ hh
    · omega
  have gk0 : w.heap.size ≤ gk := by
    rcases hp.kloc with hh | hh
    · exact h.kloc _ hh
    · omega
  refine ⟨?_, ?_, ?_, ?_, ?_, ?_, ?_, ?_⟩
  · rw [hp.ptr, hn, wrap_want (by omega)]
  · rw [hn]; exact hp.lab
  · rw [hn, hl, hp.ltk, h.ltk, flat_append]; simp [flat]
  · rw [hel]; exact hp.kep
  · rw [hel, hp.ktk, he]
  · intro g hg
    have : gl' = g := by simpa [Value.ownBlock] using hg
    omega
  · intro g hg
    have : gk = g := by simpa [Value.ownBlock] using hg
    omega
  · refine (h.bel.trans (hq.mono hs1)).trans (hp.but.below (B := w.heap.size) (by omega) (fun k hk => ?_))
    rcases hk with hk | hk | hk
    · omega
    · exact h.lloc k hk
    · exact h.kloc k hk


set_option maxRecDepth 100000 in
set_option maxHeartbeats 3200000 in
theorem f6_tail6 {u1 u2 u3 u5 u6 u7 u8 u9 u10 u11 u12 u13 u14 u15 u16 u17 u18 u19 u20 u21 u22 u23 u24 u25 u26 u27 u28 u29 u30 u31 u32 u33 u34 u35 u36 u37 u38 u39 u40 u41 u42 u43 u44 u45 u46 u47 u48 u49 u50 u51 u52 u53 u54 u55 u56 u57 u58 u59 u60 u61 u62 u63 u64 u65 u66 u67 u68 u69 u70 u71 u72 u73 u74 u75 u76 u77 u78 u79 u80 u81 u82 u83 u84 u85 u86 u87 u88 u89 u90 u91 u92 u93 u94 u95 u96 u97 u98 u99 u100 u101 u102 u103 u104 u105 u106 u107 u108 u109 u110 u111 u112 u113 u114 u115 u116 u117 u118 u119 u120 u121 u122 u123 u124 u125 u126 u127 u128 u129 u130 u131 u132 u133 u134 u135 u136 u137 u138 u139 u140 u141 u142 u143 u144 u145 u146 u147 u148 u149 u150 u151 u152 u153 u154 u155 u156 u157 u158 u159 u160 u161 u162 u163 u164 u165 u166 u167 u168 u169 u170 u171 u172 u173 u174 u175 u176 u177 u178 u179 u180 u181 u182 u183 u184 u185 u186 u187 u188 u189 u190 u191 u192 u193 u194 u195 u196 u197 u198 u199 u200 u201 u202 u203 u204 u205 u206 u207 u208 u209 u210 u211 u212 u213 u214 u215 u216 u217 u218 u219 u220 u221 u222 u223 u224 u225 u226 u227 u228 u229 u230 u231 u232 u233 u234 u235 u236 u237 u238 u239 u240 u241 u242 u243 u244 u245 u246 u247 : Value} {W0 w : World} {aS aL : Option Addr} {n cS cL gS bL oL : Nat} (c : Nat → Lab) (d : Lab)
    (hW : Below W0.heap.size W0 w) (bn : n ≤ 1024) (iS : LabsF w aS n gS 0 c) (iL : LabsF W0 aL n bL oL c)
    (hr : ∀ s, asGoodB (c s) (c s) = true) (htr : ∀ a b e, asGoodB (c a) (c b) = true → asGoodB (c b) (c e) = true → asGoodB (c a) (c e) = true) :
    Code.wp Try.prog (dropSeq 6 (Try.f6.body.getD .skip)) (bodyPost Try.prog Try.f6 fun e w' => e = .returned (.bool true) ∧ Below W0.heap.size W0 w')
      ⟨List.toArray ((.slice aL n cL) :: u1 :: u2 :: u3 :: (.slice aS n cS) :: u5 :: u6 :: u7 :: u8 :: u9 :: u10 :: u11 :: u12 :: u13 :: u14 :: u15 :: u16 :: u17 :: u18 :: u19 :: u20 :: u21 :: u22 :: u23 :: u24 :: u25 :: u26 :: u27 :: u28 :: u29 :: u30 :: u31 :: u32 :: u33 :: u34 :: u35 :: u36 :: u37 :: u38 :: u39 :: u40 :: u41 :: u42 :: u43 :: u44 :: u45 :: u46 :: u47 :: u48 :: u49 :: u50 :: u51 :: u52 :: u53 :: u54 :: u55 :: u56 :: u57 :: u58 :: u59 :: u60 :: u61 :: u62 :: u63 :: u64 :: u65 :: u66 :: u67 :: u68 :: u69 :: u70 :: u71 :: u72 :: u73 :: u74 :: u75 :: u76 :: u77 :: u78 :: u79 :: u80 :: u81 :: u82 :: u83 :: u84 :: u85 :: u86 :: u87 :: u88 :: u89 :: u90 :: u91 :: u92 :: u93 :: u94 :: u95 :: u96 :: u97 :: u98 :: u99 :: u100 :: u101 :: u102 :: u103 :: u104 :: u105 :: u106 :: u107 :: u108 :: u109 :: u110 :: u111 :: u112 :: u113 :: u114 :: u115 :: u116 :: u117 :: u118 :: u119 :: u120 :: u121 :: u122 :: u123 :: u124 :: u125 :: u126 :: u127 :: u128 :: u129 :: u130 :: u131 :: u132 :: u133 :: u134 :: u135 :: u136 :: u137 :: u138 :: u139 :: u140 :: u141 :: u142 :: u143 :: u144 :: u145 :: u146 :: u147 :: u148 :: u149 :: u150 :: u151 :: u152 :: u153 :: u154 :: u155 :: u156 :: u157 :: u158 :: u159 :: u160 :: u161 :: u162 :: u163 :: u164 :: u165 :: u166 :: u167 :: u168 :: u169 :: u170 :: u171 :: u172 :: u173 :: u174 :: u175 :: u176 :: u177 :: u178 :: u179 :: u180 :: u181 :: u182 :: u183 :: u184 :: u185 :: u186 :: u187 :: u188 :: u189 :: u190 :: u191 :: u192 :: u193 :: u194 :: u195 :: u196 :: u197 :: u198 :: u199 :: u200 :: u201 :: u202 :: u203 :: u204 :: u205 :: u206 :: u207 :: u208 :: u209 :: u210 :: u211 :: u212 :: u213 :: u214 :: u215 :: u216 :: u217 :: u218 :: u219 :: u220 :: u221 :: u222 :: u223 :: u224 :: u225 :: u226 :: u227 :: u228 :: u229 :: u230 :: u231 :: u232 :: u233 :: u234 :: u235 :: u236 :: u237 :: u238 :: u239 :: u240 :: u241 :: u242 :: u243 :: u244 :: u245 :: u246 :: u247 :: []), []⟩ w := by
  have HR : Hid _ := hr
  have HT : Hid _ := htr
  clear hr htr
  go_step
  refine wp_drop 6 (Try.f6.body.getD .skip) (by kernel_rfl) (fun K hK => ?_)
  conv => arg 2; whnf
  go_wp2_with (go_at_call 19; refine (makeWays_any _ _ _ _ _).mono ?_; rintro e wy ⟨rfl, hwy⟩; have HWY : Hid _ := hwy; clear hwy)
  refine wp_drop 7 (Try.f6.body.getD .skip) (by kernel_rfl) (fun K hK => ?_)
  conv => arg 2; whnf
  go_wp2
  refine wp_drop 8 (Try.f6.body.getD .skip) (by kernel_rfl) (fun K hK => ?_)
  conv => arg 2; whnf
  go_wp2
  refine wp_drop 9 (Try.f6.body.getD .skip) (by kernel_rfl) (fun K hK => ?_)
  conv => arg 2; whnf
  go_wp2_with fail
  have hst0 : ScrSt c w wy 0 none none 0 0 [] [] := by
    have hb : Below w.heap.size w wy := by rw [HWY.out]; exact (Below.refl _ _).alloc (Nat.le_refl _) _
    refine ⟨by rw [HWY.out]; exact Go.heap_alloc_new w _, Own.nil _ _ _, rfl, Own.nil _ _ _, rfl, fun g hg => by simp [Value.ownBlock] at hg, fun g hg => by simp [Value.ownBlock] at hg, hb⟩
  clear HWY
  go_loopw [7, 8, 9] (fun k wn i wr => ∃ (t : Nat) (al ak : Option Addr) (capl capk : Nat) (csl csk : List Value), t ≤ n ∧ i = .int .i64 t ∧ wn = .int .i64 (wantN c t : Nat) ∧ k = .slice ak (expU c t t).length capk ∧ ScrSt c w wr t al ak capl capk csl csk) (fun _ _ i _ => n - (intOf i).toNat)
  case atStart => exact ⟨0, none, none, 0, 0, [], [], Nat.zero_le _, rfl, rfl, rfl, hst0⟩
  case round =>
    clear hst0
    obtain ⟨t, al, ak, capl, capk, csl, csk, ht, rfl, rfl, rfl, hst⟩ := hrel
    by_cases hlt : t < n
    · have hlt' : (t : Int) < n := by omega
      obtain rfl := iS.ad (by omega)
      have xS := (iS.below hst.bel).cell0 t hlt
      have hw1 := wantN_le (c := c) t
      have hw2 : t * t ≤ 1024 * 1024 := Nat.mul_le_mul (by omega) (by omega)
      have hw3 : wantN c t ≤ 1048576 := by omega
      have hw4 := wantN_succ (c := c) t
      have hme := expU_length (c := c) t t
      have hnu := numN_le c t
      have hhit := hit_eq d HR.out HT.out t
      have hin : ∀ a ∈ expU c t t, a < numN c t := fun a ha => expU_lt ha
      have hlen := labsN_length c t
      obtain ⟨x, hx⟩ : ∃ x, x = c t := ⟨_, rfl⟩
      rw [← hx] at xS
      have e0 := xS.c0
      have e1 := xS.c1
      have e2 := xS.c2
      have e3 := xS.c3
      have e4 := xS.c4
      have e5 := xS.c5
      have HHIT : Hid _ := hhit
      have HLEN : Hid _ := hlen
      have HW4 : Hid _ := hw4
      have HX : Hid _ := hx
      have HST : Hid _ := hst
      have HIN : Hid _ := hin
      clear xS hhit hlen hw4 hx hst hin iS iL hW hw1 hw2
      cases hacc : accB c t with
      | false =>
        have HACC : Hid _ := hacc
        clear hacc
        have HH2 : Hid (hitB (labsN c t) d x (expU c t t) = true) := by
          show _ = _
          rw [HX.out, HHIT.out, HACC.out]; rfl
        go_wp2_with (first | (go_at_call 20; go_must (refine (zzKeep_hit _ x (wantN c t : Nat) (.slice al (numN c t) capl) (.slice ak (expU c t t).length capk) (numN c t) capl (expU c t t).length capk csl csk (labsN c t) d (expU c t t) _ HST.out.ptr HST.out.lab HST.out.kep (by omega) (by omega) HST.out.ltk HLEN.out HST.out.ktk rfl HIN.out HH2.out).mono ?_); rintro e wz ⟨rfl, hpz, hbz⟩; have HPZ : Hid _ := hpz; have c1 : wz.cell? ⟨w.heap.size, 1, none⟩ = some (.int .i64 (wantN c (t + 1) : Nat)) := (by rw [cell_of_row wz _ 1 _ _ _ hpz, wrap_want (by omega)]; rfl); have hwa : (wantN c (t + 1) : Int) ≤ (wantN c t : Int) + ((expU c t t).length : Int) := (by have := HW4.out; omega); have hwb : (wantN c t : Int) + ((expU c t t).length : Int) ≤ (wantN c (t + 1) : Int) := (by have := HW4.out; omega); clear hpz) | (go_at_call 22; go_must (refine (waysSteps_any _ _ _ c1).mono ?_); rintro e wz2 ⟨rfl, hwz⟩; have HWZ : Hid _ := hwz; clear hwz))
        go_roundw
        case rel => exact ⟨t + 1, al, ak, capl, capk, csl, csk, by omega, by go_num, by rw [HW4.out]; go_num, by rw [expU_miss HACC.out], by rw [HWZ.out]; exact HST.out.hit (by omega) HACC.out (Below.refl _ _) HPZ.out hbz⟩
        case measure => simp [intOf]; omega
      | true =>
        have HACC : Hid _ := hacc
        clear hacc
        have HH2 : Hid (hitB (labsN c t) d x (expU c t t) = false) := by
          show _ = _
          rw [HX.out, HHIT.out, HACC.out]; rfl
        go_wp2_with (first | (go_at_call 20; go_must (refine (zzKeep_miss _ x (wantN c t : Nat) (.slice al (numN c t) capl) (.slice ak (expU c t t).length capk) (numN c t) capl (expU c t t).length capk csl csk (labsN c t) d (expU c t t) _ HST.out.ptr HST.out.lab HST.out.kep (by omega) (by omega) HST.out.ltk HLEN.out HST.out.ktk rfl HIN.out HH2.out).mono ?_); rintro e wz ⟨gl', capl', csl', gk, capk', csk', rfl, hpo⟩; have HPO : Hid _ := hpo; have c1 : wz.cell? ⟨w.heap.size, 1, none⟩ = some (.int .i64 (wantN c (t + 1) : Nat)) := (by rw [cell_of_row wz _ 1 _ _ _ hpo.ptr, wrap_want (by omega)]; rfl); have hwa : (wantN c (t + 1) : Int) ≤ (wantN c t : Int) + ((expU c t t).length : Int) := (by have := HW4.out; omega); have hwb : (wantN c t : Int) + ((expU c t t).length : Int) ≤ (wantN c (t + 1) : Int) := (by have := HW4.out; omega); clear hpo) | (go_at_call 22; go_must (refine (waysSteps_any _ _ _ c1).mono ?_); rintro e wz2 ⟨rfl, hwz⟩; have HWZ : Hid _ := hwz; clear hwz))
        go_roundw
        case rel =>
          have hpo := HPO.out
          rw [HX.out] at hpo
          have hnew := HST.out.miss (by omega) HACC.out (Below.refl _ _) hpo
          exact ⟨t + 1, some ⟨gl', 0, none⟩, some ⟨gk, 0, none⟩, capl', capk', csl', csk', by omega, by go_num, by rw [HW4.out]; go_num, by rw [expU_take d HACC.out]; simp [HX.out], by rw [HWZ.out]; exact hnew⟩
        case measure => simp [intOf]; omega
    · obtain rfl : n = t := by omega
      have HST : Hid _ := hst
      clear hst
      go_wp2
      have hst := HST.out
      obtain ⟨gG, hgG⟩ : ∃ gG, 0 < numN c n → al = some ⟨gG, 0, none⟩ := by
        by_cases h0 : 0 < numN c n
        · obtain ⟨g, hg⟩ := hst.lab.addr h0
          exact ⟨g, fun _ => hg⟩
        · exact ⟨0, fun h => absurd h h0⟩
      obtain ⟨gK, hgK⟩ : ∃ gK, Ints wr ak (expU c n n).length gK 0 (natInts (expU c n n)) := by
        by_cases h0 : 0 < (expU c n n).length
        · obtain ⟨g, hg⟩ := hst.kep.addr h0
          subst hg
          exact ⟨g, hst.kep.ints (by rw [hst.ktk, natInts_map, List.take_of_length_le (by simp)]) (by simp [natInts_length])⟩
        · exact ⟨0, ⟨fun h => absurd h h0, fun j hj => by omega⟩⟩
      exact f6_tail10 (gG := gG) c (hW.trans (hst.bel.mono hW.size)) bn (iS.below hst.bel) rfl rfl hgK iL (by rw [cell_of_row wr _ 0 _ _ _ hst.ptr]; rfl) hgG (fun j hj ha => by
        have hlt := numN_lt c hj ha
        have h0 : 0 < numN c n := by omega
        have hadr := hgG h0
        subst hadr
        have hl := (hst.lab.labs d hst.ltk (labsN_length c n)).cell0 (numN c j) hlt
        rw [labsN_at c d hj ha] at hl
        exact hl)
end Go.Proofs.Qxb6601457a
