import Derived.Test.Qxb6601457aLawD
import Derived.Test.Qxb6601457aSeq
import Derived.BigQuiet
namespace Go.Proofs.Qxb6601457a
set_option linter.unusedSimpArgs false
set_option linter.unusedVariables false
open Go.RowKit Go.Sort
attribute [local go_sem] run_store_float

theorem LabAt.but {S : Nat → Prop} {w w' : World} {b o : Nat} {x : Lab} (h : LabAt w b o x) (hb : But S w w') (hn : ¬ S b) : LabAt w' b o x := by
  have e : ∀ j, w'.cell? ⟨b, j, none⟩ = w.cell? ⟨b, j, none⟩ := fun j => World.cell?_of_block (a := ⟨b, j, none⟩) (hb.block b h.lt hn)
  exact ⟨(e _).trans h.c0, (e _).trans h.c1, (e _).trans h.c2, (e _).trans h.c3, (e _).trans h.c4, (e _).trans h.c5⟩

theorem map_int_at (zs : List Int) (j : Nat) (h : j < zs.length) : (zs.map (Value.int .i64))[j]? = some (.int .i64 (zs.getD j 0)) := by
  simp [List.getD, h]

/-- A row of its own whose first cells are these integers. -/
theorem Own.ints {w : World} {g n n' cap cap' m : Nat} {cs : List Value} {zs : List Int} (h : Own w 3 1 (.slice (some ⟨g, 0, none⟩) n cap) n' cap' cs) (ht : cs.take m = (zs.map (Value.int .i64)).take m) (hm : m ≤ zs.length) : Ints w (some ⟨g, 0, none⟩) m g 0 zs := by
  refine ⟨fun _ => rfl, fun j hj => ?_⟩
  rw [Nat.zero_add, h.cell j]
  have : (cs.take m)[j]? = ((zs.map (Value.int .i64)).take m)[j]? := by rw [ht]
  rw [List.getElem?_take, List.getElem?_take, if_pos hj, if_pos hj] at this
  rw [this, map_int_at zs j (by omega)]

theorem Own.labs {w : World} {gl n capl nl : Nat} {csl : List Value} {ls : List Lab} (d : Lab) (h : Own w 45 6 (.slice (some ⟨gl, 0, none⟩) n capl) n capl csl) (hf : csl.take (nl * 6) = flat ls) (hn : ls.length = nl) : Labs w (some ⟨gl, 0, none⟩) nl gl 0 ls d := by
  refine ⟨fun _ => rfl, fun a ha => ?_⟩
  have key : ∀ j, j < 6 → w.cell? ⟨gl, a * 6 + j, none⟩ = (labCells (ls.getD a d))[j]? := by
    intro j hj
    rw [h.cell (a * 6 + j), ← flat_at d ls a j (by omega) hj, ← hf, List.getElem?_take, if_pos (by omega)]
  rw [Nat.zero_add]
  exact ⟨key 0 (by omega), key 1 (by omega), key 2 (by omega), key 3 (by omega), key 4 (by omega), key 5 (by omega)⟩

def natInts (kn : List Nat) : List Int := List.map (fun a : Nat => (a : Int)) kn
theorem natInts_length (kn : List Nat) : (natInts kn).length = kn.length := by simp [natInts]
theorem natInts_getD (kn : List Nat) (j : Nat) (h : j < kn.length) : (natInts kn).getD j 0 = ((kn.getD j 0 : Nat) : Int) := by simp [natInts, List.getD, h]
theorem natInts_map (kn : List Nat) : (natInts kn).map (Value.int .i64) = kn.map intv := by simp [natInts, intv, Function.comp_def]

def backInts (kn : List Nat) (sp : Nat) : List Int := natInts kn ++ List.replicate sp (-7)
theorem backInts_length (kn : List Nat) (sp : Nat) : (backInts kn sp).length = kn.length + sp := by simp [backInts, natInts_length]
theorem backInts_at (kn : List Nat) (sp j : Nat) (h : j < kn.length + sp) : (backInts kn sp).getD j 0 = if j < kn.length then ((kn.getD j 0 : Nat) : Int) else -7 := by
  unfold backInts
  by_cases hj : j < kn.length
  · rw [if_pos hj, ← natInts_getD kn j hj]
    simp [List.getD, List.getElem?_append, natInts_length, hj]
  · rw [if_neg hj]
    simp [List.getD, List.getElem?_append, natInts_length, hj, show j - kn.length < sp by omega]

theorem backInts_take (kn : List Nat) (sp : Nat) : ((backInts kn sp).map (Value.int .i64)).take kn.length = kn.map intv := by
  rw [← natInts_map]
  unfold backInts
  rw [List.map_append, List.take_append_of_le_length (by simp [natInts_length]), List.take_of_length_le (by simp [natInts_length])]

/-- The caller's array behind a 'keep' that adds. -/
def newBack (kn : List Nat) (sp : Nat) (r : List Nat) : List Int := (natInts r ++ (backInts kn sp).drop r.length).take (kn.length + sp)

theorem newBack_law (kn : List Nat) (sp : Nat) (r : List Nat) (j : Nat) (h : j < kn.length + sp) :
    (newBack kn sp r).getD j 0 = if j < r.length then (natInts r).getD j 0 else if j < kn.length then ((kn.getD j 0 : Nat) : Int) else -7 := by
  unfold newBack
  have hb := backInts_at kn sp j h
  have hbl := backInts_length kn sp
  by_cases hj : j < r.length
  · rw [if_pos hj]
    simp [List.getD, List.getElem?_take, h, List.getElem?_append, natInts_length, hj]
  · rw [if_neg hj, ← hb]
    simp only [List.getD, List.getElem?_take, h, if_true, List.getElem?_append, natInts_length, hj, if_false, List.getElem?_drop]
    rw [show r.length + (j - r.length) = j from by omega]

theorem newBack_map (kn : List Nat) (sp : Nat) (r : List Nat) : (newBack kn sp r).map (Value.int .i64) = (r.map intv ++ ((backInts kn sp).map (Value.int .i64)).drop r.length).take (kn.length + sp) := by
  unfold newBack
  rw [List.map_take, List.map_append, natInts_map, List.map_drop]

theorem newBack_length (kn : List Nat) (sp : Nat) (r : List Nat) (h : r.length ≤ kn.length + sp + 1) : (newBack kn sp r).length = kn.length + sp := by
  unfold newBack
  rw [List.length_take, List.length_append, natInts_length, List.length_drop, backInts_length]
  omega


set_option maxRecDepth 100000 in
set_option maxHeartbeats 3200000 in
theorem f5_tail8_nil_miss {u3 u4 u5 u6 u7 u8 u10 u11 u13 u15 u16 u17 u18 u19 u20 u21 u22 u23 u24 u25 u26 u27 u28 u29 u30 u31 u32 u33 u34 u35 u36 u37 u38 u39 u40 u41 u42 u43 u44 u45 u46 u47 u48 u49 u50 u51 u52 u53 u54 u55 u56 u57 u58 u59 u60 u61 u62 u63 u64 u65 u66 u67 u68 u69 u70 u71 u72 u73 u74 u75 u76 u77 u78 u79 u80 u81 u82 u83 u84 u85 u86 u87 u88 u89 u90 u91 u92 u93 u94 u95 u96 u97 u98 u99 u100 u101 u102 u103 u104 u105 u106 u107 u108 u109 u110 u111 u112 u113 u114 u115 u116 u117 u118 u119 u120 u121 u122 u123 u124 u125 u126 u127 u128 u129 u130 u131 u132 u133 u134 u135 u136 u137 u138 u139 u140 u141 u142 u143 u144 u145 u146 u147 u148 u149 u150 u151 u152 u153 u154 u155 u156 u157 u158 u159 u160 u161 u162 u163 u164 u165 u166 u167 u168 u169 u170 u171 u172 u173 u174 u175 u176 u177 u178 u179 u180 u181 u182 u183 u184 u185 u186 u187 u188 u189 u190 u191 u192 u193 u194 u195 u196 u197 u198 u199 u200 u201 u202 u203 u204 u205 u206 u207 u208 u209 u210 u211 u212 u213 u214 u215 u216 u217 u218 u219 u220 u221 u222 u223 u224 u225 u226 u227 u228 u229 u230 u231 u232 u233 u234 u235 u236 u237 u238 u239 u240 u241 u242 u243 u244 u245 u246 u247 u248 u249 u250 u251 u252 u253 u254 u255 u256 u257 u258 u259 u260 u261 u262 u263 u264 u265 u266 u267 u268 u269 u270 u271 u272 u273 u274 u275 u276 u277 u278 u279 u280 u281 u282 u283 u284 u285 u286 u287 u288 u289 u290 u291 u292 u293 u294 u295 u296 u297 u298 u299 u300 u301 u302 u303 u304 u305 u306 u307 u308 u309 u310 u311 u312 u313 : Value} {st : Int} {W0 w : World} {aK aL : Option Addr} {nK cK bK oK nl cL bL oL bc gl capl  : Nat} (ks : List Int) (ls : List Lab) (d c : Lab) (csl : List Value)
    (hW : Below W0.heap.size W0 w) (bnl : nl ≤ 1048576) (bnK : nK ≤ 1048576) (iK : Ints W0 aK nK bK oK ks) (iL : Labs W0 aL nl bL oL ls d) (hbc : w.heap[bc]? = some (.cells #[.float .f64 c.wt, .float .f64 c.lo, .float .f64 c.de, .int .i64 c.ho, .int .i64 c.st, .int .i64 c.pr] 41 (0, 0))) (hgl0 : W0.heap.size ≤ gl)
    (hl : Own w 45 6 (.slice (some ⟨gl, 0, none⟩) nl capl) nl capl csl) (hfl : csl.take (nl * 6) = flat ls) (hln : ls.length = nl)
    (kn : List Nat) (hkn : kn.length = nK) (hkk : ∀ j, j < nK → ks.getD j 0 = ((kn.getD j 0 : Nat) : Int)) (hin : ∀ j, j < nK → kn.getD j 0 < nl) (hn0 : nK = 0) :
    Code.wp Try.prog (dropSeq 8 (Try.f5.body.getD .skip)) (bodyPost Try.prog Try.f5 fun e w' => e = .returned (.bool true) ∧ Below W0.heap.size W0 w')
      ⟨List.toArray ((.slice aL nl cL) :: (.int .i64 st) :: (.slice aK nK cK) :: u3 :: u4 :: u5 :: u6 :: u7 :: u8 :: (.pointer (some ⟨bc, 0, none⟩)) :: u10 :: u11 :: (.slice (some ⟨gl, 0, none⟩) nl capl) :: u13 :: (.slice none 0 0) :: u15 :: u16 :: u17 :: u18 :: u19 :: u20 :: u21 :: u22 :: u23 :: u24 :: u25 :: u26 :: u27 :: u28 :: u29 :: u30 :: u31 :: u32 :: u33 :: u34 :: u35 :: u36 :: u37 :: u38 :: u39 :: u40 :: u41 :: u42 :: u43 :: u44 :: u45 :: u46 :: u47 :: u48 :: u49 :: u50 :: u51 :: u52 :: u53 :: u54 :: u55 :: u56 :: u57 :: u58 :: u59 :: u60 :: u61 :: u62 :: u63 :: u64 :: u65 :: u66 :: u67 :: u68 :: u69 :: u70 :: u71 :: u72 :: u73 :: u74 :: u75 :: u76 :: u77 :: u78 :: u79 :: u80 :: u81 :: u82 :: u83 :: u84 :: u85 :: u86 :: u87 :: u88 :: u89 :: u90 :: u91 :: u92 :: u93 :: u94 :: u95 :: u96 :: u97 :: u98 :: u99 :: u100 :: u101 :: u102 :: u103 :: u104 :: u105 :: u106 :: u107 :: u108 :: u109 :: u110 :: u111 :: u112 :: u113 :: u114 :: u115 :: u116 :: u117 :: u118 :: u119 :: u120 :: u121 :: u122 :: u123 :: u124 :: u125 :: u126 :: u127 :: u128 :: u129 :: u130 :: u131 :: u132 :: u133 :: u134 :: u135 :: u136 :: u137 :: u138 :: u139 :: u140 :: u141 :: u142 :: u143 :: u144 :: u145 :: u146 :: u147 :: u148 :: u149 :: u150 :: u151 :: u152 :: u153 :: u154 :: u155 :: u156 :: u157 :: u158 :: u159 :: u160 :: u161 :: u162 :: u163 :: u164 :: u165 :: u166 :: u167 :: u168 :: u169 :: u170 :: u171 :: u172 :: u173 :: u174 :: u175 :: u176 :: u177 :: u178 :: u179 :: u180 :: u181 :: u182 :: u183 :: u184 :: u185 :: u186 :: u187 :: u188 :: u189 :: u190 :: u191 :: u192 :: u193 :: u194 :: u195 :: u196 :: u197 :: u198 :: u199 :: u200 :: u201 :: u202 :: u203 :: u204 :: u205 :: u206 :: u207 :: u208 :: u209 :: u210 :: u211 :: u212 :: u213 :: u214 :: u215 :: u216 :: u217 :: u218 :: u219 :: u220 :: u221 :: u222 :: u223 :: u224 :: u225 :: u226 :: u227 :: u228 :: u229 :: u230 :: u231 :: u232 :: u233 :: u234 :: u235 :: u236 :: u237 :: u238 :: u239 :: u240 :: u241 :: u242 :: u243 :: u244 :: u245 :: u246 :: u247 :: u248 :: u249 :: u250 :: u251 :: u252 :: u253 :: u254 :: u255 :: u256 :: u257 :: u258 :: u259 :: u260 :: u261 :: u262 :: u263 :: u264 :: u265 :: u266 :: u267 :: u268 :: u269 :: u270 :: u271 :: u272 :: u273 :: u274 :: u275 :: u276 :: u277 :: u278 :: u279 :: u280 :: u281 :: u282 :: u283 :: u284 :: u285 :: u286 :: u287 :: u288 :: u289 :: u290 :: u291 :: u292 :: u293 :: u294 :: u295 :: u296 :: u297 :: u298 :: u299 :: u300 :: u301 :: u302 :: u303 :: u304 :: u305 :: u306 :: u307 :: u308 :: u309 :: u310 :: u311 :: u312 :: u313 :: []), []⟩ w := by
  subst hn0
  have hknil : kn = [] := List.eq_nil_of_length_eq_zero hkn
  have hh : hitB ls d c kn = false := by rw [hknil]; rfl
  have HNIL : Hid _ := hknil
  clear hknil
  have HK : Hid _ := hkk
  have HKN : Hid _ := hkn
  have HFL : Hid _ := hfl
  have HLN : Hid _ := hln
  have HH : Hid _ := hh
  clear hkk hkn hfl hln hh
  have cc : LabAt w bc 0 c := labAt_of_block hbc
  have hglt : gl < w.heap.size := (hl.lt rfl).1
  have hglc : gl ≠ bc := fun e => hl.ne hbc (by decide) (by rw [← e]; rfl)
  have b0 := cc.c0
  have b1 : w.cell? ⟨bc, 1, none⟩ = _ := cc.c1
  have b2 : w.cell? ⟨bc, 2, none⟩ = _ := cc.c2
  have b3 : w.cell? ⟨bc, 3, none⟩ = _ := cc.c3
  have b4 : w.cell? ⟨bc, 4, none⟩ = _ := cc.c4
  have b5 : w.cell? ⟨bc, 5, none⟩ = _ := cc.c5
  go_step
  refine wp_drop 8 (Try.f5.body.getD .skip) (by kernel_rfl) (fun K hK => ?_)
  conv => arg 2; whnf
  go_wp2
  refine wp_drop 9 (Try.f5.body.getD .skip) (by kernel_rfl) (fun K hK => ?_)
  conv => arg 2; whnf
  go_wp2_with (go_at_call 18; refine (toLabel_any _ _ _ _ _ _ _).mono ?_; rintro e wx ⟨rfl, hb⟩)
  clear b0 b1 b2 b3 b4 b5
  refine wp_drop 10 (Try.f5.body.getD .skip) (by kernel_rfl) (fun K hK => ?_)
  conv => arg 2; whnf
  go_wp2_with (go_at_call 19; refine (makeWays_any _ _ _ _ _).mono ?_; rintro e wy ⟨rfl, hwy⟩; have HWY : Hid _ := hwy; clear hwy)
  refine wp_drop 11 (Try.f5.body.getD .skip) (by kernel_rfl) (fun K hK => ?_)
  conv => arg 2; whnf
  have hwy' : wy = ((wx.alloc (.cells #[.float .f64 c.wt, .float .f64 c.lo, .float .f64 c.de, .int .i64 c.ho, .int .i64 c.st, .int .i64 c.pr] 45)).alloc (.cells #[.slice (some ⟨gl, 0, none⟩) nl capl, .int .i64 st] 64)) := HWY.out
  clear HWY
  have hB3 : Below wx.heap.size wx wy := by rw [hwy']; exact ((Below.refl _ _).alloc (Nat.le_refl _) _).alloc (by simp) _
  have hb3 : Below w.heap.size w wy := hb.trans (hB3.mono hb.size)
  have hp : wy.heap[wx.heap.size + 1]? = some (.cells #[.slice (some ⟨gl, 0, none⟩) nl capl, .int .i64 st] 64 (0, 0)) := by rw [hwy']; exact heap_second _ _ _
  have hcl : wy.heap[wx.heap.size]? = some (.cells #[.float .f64 c.wt, .float .f64 c.lo, .float .f64 c.de, .int .i64 c.ho, .int .i64 c.st, .int .i64 c.pr] 45 (0, 0)) := by
    rw [hwy', Go.heap_alloc_old _ _ (by simp)]; exact Go.heap_alloc_new wx _
  clear hwy'
  have hl3 := hl.below hb3
  have hk3 : Own wy 3 1 (.slice none 0 0) 0 0 [] := Own.nil _ _ _
  have ccl := labAt_of_block hcl
  have b0 := ccl.c0
  have b1 : wy.cell? ⟨wx.heap.size, 1, none⟩ = _ := ccl.c1
  have b2 : wy.cell? ⟨wx.heap.size, 2, none⟩ = _ := ccl.c2
  have b3 : wy.cell? ⟨wx.heap.size, 3, none⟩ = _ := ccl.c3
  have b4 : wy.cell? ⟨wx.heap.size, 4, none⟩ = _ := ccl.c4
  have b5 : wy.cell? ⟨wx.heap.size, 5, none⟩ = _ := ccl.c5
  have hfk : [].take 0 = kn.map intv := by rw [HNIL.out]; rfl
  have hin' : ∀ a ∈ kn, a < nl := by
    intro a ha
    obtain ⟨j, hj, rfl⟩ := List.getElem_of_mem ha
    have := hin j (by rw [← HKN.out]; exact hj)
    simpa [List.getD, hj] using this
  have HFK : Hid _ := hfk
  clear hfk
  have hpx : W0.heap.size ≤ wx.heap.size := Nat.le_trans hW.size hb.size
  go_wp2_with (go_at_call 20; go_must (refine (zzKeep_miss _ c st (.slice (some ⟨gl, 0, none⟩) nl capl) (.slice none 0 0) nl capl 0 0 csl [] ls d kn _ hp hl3 hk3 (by omega) (by omega) HFL.out HLN.out HFK.out HKN.out hin' HH.out).mono ?_); rintro e wz ⟨gl', capl', csl', gk, capk', csk', rfl, hpo⟩)
  clear b0 b1 b2 b3 b4 b5
  refine wp_drop 12 (Try.f5.body.getD .skip) (by kernel_rfl) (fun K hK => ?_)
  conv => arg 2; whnf
  go_wp2
  have hFl : (leftL ls d c kn).length ≤ kn.length := List.length_filter_le _ _
  have hBS : ∀ k, (k = wx.heap.size + 1 ∨ (Value.slice (some ⟨gl, 0, none⟩) nl capl).ownBlock = some k ∨ (Value.slice none 0 0).ownBlock = some k) → W0.heap.size ≤ k := by
    intro k hk
    rcases hk with h | h | h
    · omega
    · have h' : gl = k := by simpa [Value.ownBlock] using h
      exact h' ▸ hgl0
    · simp [Value.ownBlock] at h

  have hWz : Below W0.heap.size W0 wz := (hW.trans (hb3.mono hW.size)).trans (hpo.but.below (B := W0.heap.size) (Nat.le_trans hpx hB3.size) hBS)
  have hbl := backInts_length kn 0
  have lbc : bc < w.heap.size := cc.lt
  have hbs := hb.size
  have hlab := hpo.lab
  have hltk := hpo.ltk
  have ngl : gl ≠ bc := fun e => hglc e
  have hflat : csl'.take ((nl + 1) * 6) = flat (ls ++ [c]) := by rw [hltk, HFL.out, flat_append]; simp [flat]
  have hlabs := hlab.labs (nl := nl + 1) d hflat (by simp [HLN.out])
  have hlabs0 : Labs wz (some ⟨gl', 0, none⟩) nl gl' 0 ls d := ⟨hlabs.ad ∘ (fun _ => by omega), fun j hj => by
    have h := hlabs.cell j (by omega)
    have e : (ls ++ [c]).getD j d = ls.getD j d := by
      have hj' : j < ls.length := by rw [HLN.out]; exact hj
      simp [List.getD, List.getElem?_append, hj']
    rw [e] at h; exact h⟩
  have hlast : LabAt wz gl' (nl * 6) c := by
    have h := hlabs.cell0 nl (by omega)
    have e : (ls ++ [c]).getD nl d = c := by
      have := HLN.out
      subst this
      simp [List.getD]
    rw [e] at h; exact h
  have hkep := hpo.kep
  have hktk := hpo.ktk
  have hrI : Ints wz (some ⟨gk, 0, none⟩) ((leftL ls d c kn).length + 1) gk 0 (natInts (leftL ls d c kn ++ [nl])) := hkep.ints (m := (leftL ls d c kn).length + 1) (by rw [hktk, natInts_map, List.take_of_length_le (by simp)]) (by simp [natInts_length])
  exact f5_tail13_miss (gG := gl') (nG := nl + 1) (nB := 0) (gB := 0) (gR := gk) ks (newBack kn 0 (leftL ls d c kn ++ [nl])) (natInts (leftL ls d c kn ++ [nl])) ls d c hWz (by omega) (iK.below hWz)
    (Ints.mk (fun h => by omega) (fun j hj => by omega)) hrI
    (fun j hj => by omega)
    (by omega) (by omega) (iL.below hWz) hlabs0 rfl rfl hlast ((cc.below hb3).but hpo.but (by
      rintro (h | h | h)
      · omega
      · exact hglc (by simpa [Value.ownBlock] using h)
      · simp [Value.ownBlock] at h))
    (by rw [cell_of_row wz _ 0 _ _ _ hpo.ptr]; rfl) (by rw [cell_of_row wz _ 1 _ _ _ hpo.ptr]; rfl) kn HKN.out HK.out hin (ccl.but hpo.but (by
      rintro (h | h | h)
      · omega
      · have h' : gl = wx.heap.size := by simpa [Value.ownBlock] using h
        omega
      · simp [Value.ownBlock] at h)) HH.out rfl
    (fun j hj => by rw [natInts_getD _ j (by simp; omega)]; simp [List.getD, List.getElem?_append, hj])
    (by rw [natInts_getD _ _ (by simp)]; simp [List.getD])

set_option maxRecDepth 100000 in
set_option maxHeartbeats 3200000 in
theorem f5_tail8_row_hit {u3 u4 u5 u6 u7 u8 u10 u11 u13 u15 u16 u17 u18 u19 u20 u21 u22 u23 u24 u25 u26 u27 u28 u29 u30 u31 u32 u33 u34 u35 u36 u37 u38 u39 u40 u41 u42 u43 u44 u45 u46 u47 u48 u49 u50 u51 u52 u53 u54 u55 u56 u57 u58 u59 u60 u61 u62 u63 u64 u65 u66 u67 u68 u69 u70 u71 u72 u73 u74 u75 u76 u77 u78 u79 u80 u81 u82 u83 u84 u85 u86 u87 u88 u89 u90 u91 u92 u93 u94 u95 u96 u97 u98 u99 u100 u101 u102 u103 u104 u105 u106 u107 u108 u109 u110 u111 u112 u113 u114 u115 u116 u117 u118 u119 u120 u121 u122 u123 u124 u125 u126 u127 u128 u129 u130 u131 u132 u133 u134 u135 u136 u137 u138 u139 u140 u141 u142 u143 u144 u145 u146 u147 u148 u149 u150 u151 u152 u153 u154 u155 u156 u157 u158 u159 u160 u161 u162 u163 u164 u165 u166 u167 u168 u169 u170 u171 u172 u173 u174 u175 u176 u177 u178 u179 u180 u181 u182 u183 u184 u185 u186 u187 u188 u189 u190 u191 u192 u193 u194 u195 u196 u197 u198 u199 u200 u201 u202 u203 u204 u205 u206 u207 u208 u209 u210 u211 u212 u213 u214 u215 u216 u217 u218 u219 u220 u221 u222 u223 u224 u225 u226 u227 u228 u229 u230 u231 u232 u233 u234 u235 u236 u237 u238 u239 u240 u241 u242 u243 u244 u245 u246 u247 u248 u249 u250 u251 u252 u253 u254 u255 u256 u257 u258 u259 u260 u261 u262 u263 u264 u265 u266 u267 u268 u269 u270 u271 u272 u273 u274 u275 u276 u277 u278 u279 u280 u281 u282 u283 u284 u285 u286 u287 u288 u289 u290 u291 u292 u293 u294 u295 u296 u297 u298 u299 u300 u301 u302 u303 u304 u305 u306 u307 u308 u309 u310 u311 u312 u313 : Value} {st : Int} {W0 w : World} {aK aL : Option Addr} {nK cK bK oK nl cL bL oL bc gl capl gB sp nB : Nat} (ks : List Int) (ls : List Lab) (d c : Lab) (csl : List Value)
    (hW : Below W0.heap.size W0 w) (bnl : nl ≤ 1048576) (bnK : nK ≤ 1048576) (iK : Ints W0 aK nK bK oK ks) (iL : Labs W0 aL nl bL oL ls d) (hbc : w.heap[bc]? = some (.cells #[.float .f64 c.wt, .float .f64 c.lo, .float .f64 c.de, .int .i64 c.ho, .int .i64 c.st, .int .i64 c.pr] 41 (0, 0))) (hgl0 : W0.heap.size ≤ gl)
    (hl : Own w 45 6 (.slice (some ⟨gl, 0, none⟩) nl capl) nl capl csl) (hfl : csl.take (nl * 6) = flat ls) (hln : ls.length = nl)
    (kn : List Nat) (hkn : kn.length = nK) (hkk : ∀ j, j < nK → ks.getD j 0 = ((kn.getD j 0 : Nat) : Int)) (hin : ∀ j, j < nK → kn.getD j 0 < nl) (bsp : sp ≤ 1048576) (hgB0 : W0.heap.size ≤ gB) (hnB : nB = nK + sp) (hB : Own w 3 1 (.slice (some ⟨gB, 0, none⟩) nB nB) nB nB ((backInts kn sp).map (Value.int .i64))) (hh : hitB ls d c kn = true) :
    Code.wp Try.prog (dropSeq 8 (Try.f5.body.getD .skip)) (bodyPost Try.prog Try.f5 fun e w' => e = .returned (.bool true) ∧ Below W0.heap.size W0 w')
      ⟨List.toArray ((.slice aL nl cL) :: (.int .i64 st) :: (.slice aK nK cK) :: u3 :: u4 :: u5 :: u6 :: u7 :: u8 :: (.pointer (some ⟨bc, 0, none⟩)) :: u10 :: u11 :: (.slice (some ⟨gl, 0, none⟩) nl capl) :: u13 :: (.slice (some ⟨gB, 0, none⟩) nB nB) :: u15 :: u16 :: u17 :: u18 :: u19 :: u20 :: u21 :: u22 :: u23 :: u24 :: u25 :: u26 :: u27 :: u28 :: u29 :: u30 :: u31 :: u32 :: u33 :: u34 :: u35 :: u36 :: u37 :: u38 :: u39 :: u40 :: u41 :: u42 :: u43 :: u44 :: u45 :: u46 :: u47 :: u48 :: u49 :: u50 :: u51 :: u52 :: u53 :: u54 :: u55 :: u56 :: u57 :: u58 :: u59 :: u60 :: u61 :: u62 :: u63 :: u64 :: u65 :: u66 :: u67 :: u68 :: u69 :: u70 :: u71 :: u72 :: u73 :: u74 :: u75 :: u76 :: u77 :: u78 :: u79 :: u80 :: u81 :: u82 :: u83 :: u84 :: u85 :: u86 :: u87 :: u88 :: u89 :: u90 :: u91 :: u92 :: u93 :: u94 :: u95 :: u96 :: u97 :: u98 :: u99 :: u100 :: u101 :: u102 :: u103 :: u104 :: u105 :: u106 :: u107 :: u108 :: u109 :: u110 :: u111 :: u112 :: u113 :: u114 :: u115 :: u116 :: u117 :: u118 :: u119 :: u120 :: u121 :: u122 :: u123 :: u124 :: u125 :: u126 :: u127 :: u128 :: u129 :: u130 :: u131 :: u132 :: u133 :: u134 :: u135 :: u136 :: u137 :: u138 :: u139 :: u140 :: u141 :: u142 :: u143 :: u144 :: u145 :: u146 :: u147 :: u148 :: u149 :: u150 :: u151 :: u152 :: u153 :: u154 :: u155 :: u156 :: u157 :: u158 :: u159 :: u160 :: u161 :: u162 :: u163 :: u164 :: u165 :: u166 :: u167 :: u168 :: u169 :: u170 :: u171 :: u172 :: u173 :: u174 :: u175 :: u176 :: u177 :: u178 :: u179 :: u180 :: u181 :: u182 :: u183 :: u184 :: u185 :: u186 :: u187 :: u188 :: u189 :: u190 :: u191 :: u192 :: u193 :: u194 :: u195 :: u196 :: u197 :: u198 :: u199 :: u200 :: u201 :: u202 :: u203 :: u204 :: u205 :: u206 :: u207 :: u208 :: u209 :: u210 :: u211 :: u212 :: u213 :: u214 :: u215 :: u216 :: u217 :: u218 :: u219 :: u220 :: u221 :: u222 :: u223 :: u224 :: u225 :: u226 :: u227 :: u228 :: u229 :: u230 :: u231 :: u232 :: u233 :: u234 :: u235 :: u236 :: u237 :: u238 :: u239 :: u240 :: u241 :: u242 :: u243 :: u244 :: u245 :: u246 :: u247 :: u248 :: u249 :: u250 :: u251 :: u252 :: u253 :: u254 :: u255 :: u256 :: u257 :: u258 :: u259 :: u260 :: u261 :: u262 :: u263 :: u264 :: u265 :: u266 :: u267 :: u268 :: u269 :: u270 :: u271 :: u272 :: u273 :: u274 :: u275 :: u276 :: u277 :: u278 :: u279 :: u280 :: u281 :: u282 :: u283 :: u284 :: u285 :: u286 :: u287 :: u288 :: u289 :: u290 :: u291 :: u292 :: u293 :: u294 :: u295 :: u296 :: u297 :: u298 :: u299 :: u300 :: u301 :: u302 :: u303 :: u304 :: u305 :: u306 :: u307 :: u308 :: u309 :: u310 :: u311 :: u312 :: u313 :: []), []⟩ w := by
  subst hnB
  have HK : Hid _ := hkk
  have HKN : Hid _ := hkn
  have HFL : Hid _ := hfl
  have HLN : Hid _ := hln
  have HH : Hid _ := hh
  clear hkk hkn hfl hln hh
  have cc : LabAt w bc 0 c := labAt_of_block hbc
  have hglt : gl < w.heap.size := (hl.lt rfl).1
  have hglc : gl ≠ bc := fun e => hl.ne hbc (by decide) (by rw [← e]; rfl)
  have hgBc : gB ≠ bc := fun e => hB.ne hbc (by decide) (by rw [← e]; rfl)
  have b0 := cc.c0
  have b1 : w.cell? ⟨bc, 1, none⟩ = _ := cc.c1
  have b2 : w.cell? ⟨bc, 2, none⟩ = _ := cc.c2
  have b3 : w.cell? ⟨bc, 3, none⟩ = _ := cc.c3
  have b4 : w.cell? ⟨bc, 4, none⟩ = _ := cc.c4
  have b5 : w.cell? ⟨bc, 5, none⟩ = _ := cc.c5
  have hsl1 : (nK : Int) ≤ ((nK + sp : Nat) : Int) := by omega
  go_step
  refine wp_drop 8 (Try.f5.body.getD .skip) (by kernel_rfl) (fun K hK => ?_)
  conv => arg 2; whnf
  go_wp2
  refine wp_drop 9 (Try.f5.body.getD .skip) (by kernel_rfl) (fun K hK => ?_)
  conv => arg 2; whnf
  go_wp2_with (go_at_call 18; refine (toLabel_any _ _ _ _ _ _ _).mono ?_; rintro e wx ⟨rfl, hb⟩)
  clear b0 b1 b2 b3 b4 b5
  refine wp_drop 10 (Try.f5.body.getD .skip) (by kernel_rfl) (fun K hK => ?_)
  conv => arg 2; whnf
  go_wp2_with (go_at_call 19; refine (makeWays_any _ _ _ _ _).mono ?_; rintro e wy ⟨rfl, hwy⟩; have HWY : Hid _ := hwy; clear hwy)
  refine wp_drop 11 (Try.f5.body.getD .skip) (by kernel_rfl) (fun K hK => ?_)
  conv => arg 2; whnf
  have hwy' : wy = ((wx.alloc (.cells #[.float .f64 c.wt, .float .f64 c.lo, .float .f64 c.de, .int .i64 c.ho, .int .i64 c.st, .int .i64 c.pr] 45)).alloc (.cells #[.slice (some ⟨gl, 0, none⟩) nl capl, .int .i64 st] 64)) := HWY.out
  clear HWY
  have hB3 : Below wx.heap.size wx wy := by rw [hwy']; exact ((Below.refl _ _).alloc (Nat.le_refl _) _).alloc (by simp) _
  have hb3 : Below w.heap.size w wy := hb.trans (hB3.mono hb.size)
  have hp : wy.heap[wx.heap.size + 1]? = some (.cells #[.slice (some ⟨gl, 0, none⟩) nl capl, .int .i64 st] 64 (0, 0)) := by rw [hwy']; exact heap_second _ _ _
  have hcl : wy.heap[wx.heap.size]? = some (.cells #[.float .f64 c.wt, .float .f64 c.lo, .float .f64 c.de, .int .i64 c.ho, .int .i64 c.st, .int .i64 c.pr] 45 (0, 0)) := by
    rw [hwy', Go.heap_alloc_old _ _ (by simp)]; exact Go.heap_alloc_new wx _
  clear hwy'
  have hl3 := hl.below hb3
  have hk3 : Own wy 3 1 (.slice (some ⟨gB, 0, none⟩) nK (nK + sp)) nK (nK + sp) ((backInts kn sp).map (Value.int .i64)) := by
    have h := hB.below hb3
    exact ⟨h.1, by omega, h.2.2.1, .inr ⟨gB, rfl, h.heap⟩⟩
  have ccl := labAt_of_block hcl
  have b0 := ccl.c0
  have b1 : wy.cell? ⟨wx.heap.size, 1, none⟩ = _ := ccl.c1
  have b2 : wy.cell? ⟨wx.heap.size, 2, none⟩ = _ := ccl.c2
  have b3 : wy.cell? ⟨wx.heap.size, 3, none⟩ = _ := ccl.c3
  have b4 : wy.cell? ⟨wx.heap.size, 4, none⟩ = _ := ccl.c4
  have b5 : wy.cell? ⟨wx.heap.size, 5, none⟩ = _ := ccl.c5
  have hfk : ((backInts kn sp).map (Value.int .i64)).take nK = kn.map intv := by rw [← HKN.out]; exact backInts_take kn sp
  have hin' : ∀ a ∈ kn, a < nl := by
    intro a ha
    obtain ⟨j, hj, rfl⟩ := List.getElem_of_mem ha
    have := hin j (by rw [← HKN.out]; exact hj)
    simpa [List.getD, hj] using this
  have HFK : Hid _ := hfk
  clear hfk
  have hpx : W0.heap.size ≤ wx.heap.size := Nat.le_trans hW.size hb.size
  go_wp2_with (go_at_call 20; go_must (refine (zzKeep_hit _ c st (.slice (some ⟨gl, 0, none⟩) nl capl) (.slice (some ⟨gB, 0, none⟩) nK (nK + sp)) nl capl nK (nK + sp) csl ((backInts kn sp).map (Value.int .i64)) ls d kn _ hp hl3 hk3 (by omega) (by omega) HFL.out HLN.out HFK.out HKN.out hin' HH.out).mono ?_); rintro e wz ⟨rfl, hpz, hbz⟩)
  clear b0 b1 b2 b3 b4 b5
  refine wp_drop 12 (Try.f5.body.getD .skip) (by kernel_rfl) (fun K hK => ?_)
  conv => arg 2; whnf
  go_wp2
  have hWz : Below W0.heap.size W0 wz := (hW.trans (hb3.mono hW.size)).trans ((hbz.below (B := W0.heap.size) (Nat.le_trans hpx (by have := hB3.size; omega)) (fun k hk => by omega)))
  have lpw : wx.heap.size + 1 ≠ gB := fun e => hk3.ne (e ▸ hp) (by decide) rfl
  have hkz : Own wz 3 1 (.slice (some ⟨gB, 0, none⟩) nK (nK + sp)) nK (nK + sp) ((backInts kn sp).map (Value.int .i64)) := hk3.but hbz (fun k e => e ▸ hk3.ne hp (by decide))
  have hlz := hl3.but hbz (fun k e => e ▸ hl3.ne hp (by decide))
  have hbl := backInts_length kn sp
  have lbc : bc < w.heap.size := cc.lt
  have hbs := hb.size
  exact f5_tail13_hit (gG := gl) (nG := nl) (nB := nK + sp) (gB := gB) (gR := gB) ks (backInts kn sp) (backInts kn sp) ls d c hWz (by omega) (iK.below hWz)
    (hkz.ints (m := nK + sp) rfl (by rw [hbl, HKN.out]; exact Nat.le_refl _)) (hkz.ints (m := nK) rfl (by rw [hbl, HKN.out]; omega))
    (fun j hj => by
      rw [backInts_at kn sp j (by rw [HKN.out]; exact hj), HKN.out]
      by_cases h : j < nK
      · simp only [h, if_true]
      · simp only [h, if_false])
    (by omega) (by omega) (iL.below hWz) (hlz.labs d HFL.out HLN.out) rfl ((cc.below hb3).but hbz (by omega))
    (by rw [cell_of_row wz _ 0 _ _ _ hpz]; rfl) (by rw [cell_of_row wz _ 1 _ _ _ hpz]; rfl) kn HKN.out HK.out hin (ccl.but hbz (by omega)) HH.out rfl
    (fun j hj => by rw [backInts_at kn sp j (by rw [HKN.out]; omega), HKN.out, if_pos hj, HK.out j hj])

set_option maxRecDepth 100000 in
set_option maxHeartbeats 3200000 in
theorem f5_tail8_row_miss {u3 u4 u5 u6 u7 u8 u10 u11 u13 u15 u16 u17 u18 u19 u20 u21 u22 u23 u24 u25 u26 u27 u28 u29 u30 u31 u32 u33 u34 u35 u36 u37 u38 u39 u40 u41 u42 u43 u44 u45 u46 u47 u48 u49 u50 u51 u52 u53 u54 u55 u56 u57 u58 u59 u60 u61 u62 u63 u64 u65 u66 u67 u68 u69 u70 u71 u72 u73 u74 u75 u76 u77 u78 u79 u80 u81 u82 u83 u84 u85 u86 u87 u88 u89 u90 u91 u92 u93 u94 u95 u96 u97 u98 u99 u100 u101 u102 u103 u104 u105 u106 u107 u108 u109 u110 u111 u112 u113 u114 u115 u116 u117 u118 u119 u120 u121 u122 u123 u124 u125 u126 u127 u128 u129 u130 u131 u132 u133 u134 u135 u136 u137 u138 u139 u140 u141 u142 u143 u144 u145 u146 u147 u148 u149 u150 u151 u152 u153 u154 u155 u156 u157 u158 u159 u160 u161 u162 u163 u164 u165 u166 u167 u168 u169 u170 u171 u172 u173 u174 u175 u176 u177 u178 u179 u180 u181 u182 u183 u184 u185 u186 u187 u188 u189 u190 u191 u192 u193 u194 u195 u196 u197 u198 u199 u200 u201 u202 u203 u204 u205 u206 u207 u208 u209 u210 u211 u212 u213 u214 u215 u216 u217 u218 u219 u220 u221 u222 u223 u224 u225 u226 u227 u228 u229 u230 u231 u232 u233 u234 u235 u236 u237 u238 u239 u240 u241 u242 u243 u244 u245 u246 u247 u248 u249 u250 u251 u252 u253 u254 u255 u256 u257 u258 u259 u260 u261 u262 u263 u264 u265 u266 u267 u268 u269 u270 u271 u272 u273 u274 u275 u276 u277 u278 u279 u280 u281 u282 u283 u284 u285 u286 u287 u288 u289 u290 u291 u292 u293 u294 u295 u296 u297 u298 u299 u300 u301 u302 u303 u304 u305 u306 u307 u308 u309 u310 u311 u312 u313 : Value} {st : Int} {W0 w : World} {aK aL : Option Addr} {nK cK bK oK nl cL bL oL bc gl capl gB sp nB : Nat} (ks : List Int) (ls : List Lab) (d c : Lab) (csl : List Value)
    (hW : Below W0.heap.size W0 w) (bnl : nl ≤ 1048576) (bnK : nK ≤ 1048576) (iK : Ints W0 aK nK bK oK ks) (iL : Labs W0 aL nl bL oL ls d) (hbc : w.heap[bc]? = some (.cells #[.float .f64 c.wt, .float .f64 c.lo, .float .f64 c.de, .int .i64 c.ho, .int .i64 c.st, .int .i64 c.pr] 41 (0, 0))) (hgl0 : W0.heap.size ≤ gl)
    (hl : Own w 45 6 (.slice (some ⟨gl, 0, none⟩) nl capl) nl capl csl) (hfl : csl.take (nl * 6) = flat ls) (hln : ls.length = nl)
    (kn : List Nat) (hkn : kn.length = nK) (hkk : ∀ j, j < nK → ks.getD j 0 = ((kn.getD j 0 : Nat) : Int)) (hin : ∀ j, j < nK → kn.getD j 0 < nl) (bsp : sp ≤ 1048576) (hgB0 : W0.heap.size ≤ gB) (hnB : nB = nK + sp) (hB : Own w 3 1 (.slice (some ⟨gB, 0, none⟩) nB nB) nB nB ((backInts kn sp).map (Value.int .i64))) (hh : hitB ls d c kn = false) :
    Code.wp Try.prog (dropSeq 8 (Try.f5.body.getD .skip)) (bodyPost Try.prog Try.f5 fun e w' => e = .returned (.bool true) ∧ Below W0.heap.size W0 w')
      ⟨List.toArray ((.slice aL nl cL) :: (.int .i64 st) :: (.slice aK nK cK) :: u3 :: u4 :: u5 :: u6 :: u7 :: u8 :: (.pointer (some ⟨bc, 0, none⟩)) :: u10 :: u11 :: (.slice (some ⟨gl, 0, none⟩) nl capl) :: u13 :: (.slice (some ⟨gB, 0, none⟩) nB nB) :: u15 :: u16 :: u17 :: u18 :: u19 :: u20 :: u21 :: u22 :: u23 :: u24 :: u25 :: u26 :: u27 :: u28 :: u29 :: u30 :: u31 :: u32 :: u33 :: u34 :: u35 :: u36 :: u37 :: u38 :: u39 :: u40 :: u41 :: u42 :: u43 :: u44 :: u45 :: u46 :: u47 :: u48 :: u49 :: u50 :: u51 :: u52 :: u53 :: u54 :: u55 :: u56 :: u57 :: u58 :: u59 :: u60 :: u61 :: u62 :: u63 :: u64 :: u65 :: u66 :: u67 :: u68 :: u69 :: u70 :: u71 :: u72 :: u73 :: u74 :: u75 :: u76 :: u77 :: u78 :: u79 :: u80 :: u81 :: u82 :: u83 :: u84 :: u85 :: u86 :: u87 :: u88 :: u89 :: u90 :: u91 :: u92 :: u93 :: u94 :: u95 :: u96 :: u97 :: u98 :: u99 :: u100 :: u101 :: u102 :: u103 :: u104 :: u105 :: u106 :: u107 :: u108 :: u109 :: u110 :: u111 :: u112 :: u113 :: u114 :: u115 :: u116 :: u117 :: u118 :: u119 :: u120 :: u121 :: u122 :: u123 :: u124 :: u125 :: u126 :: u127 :: u128 :: u129 :: u130 :: u131 :: u132 :: u133 :: u134 :: u135 :: u136 :: u137 :: u138 :: u139 :: u140 :: u141 :: u142 :: u143 :: u144 :: u145 :: u146 :: u147 :: u148 :: u149 :: u150 :: u151 :: u152 :: u153 :: u154 :: u155 :: u156 :: u157 :: u158 :: u159 :: u160 :: u161 :: u162 :: u163 :: u164 :: u165 :: u166 :: u167 :: u168 :: u169 :: u170 :: u171 :: u172 :: u173 :: u174 :: u175 :: u176 :: u177 :: u178 :: u179 :: u180 :: u181 :: u182 :: u183 :: u184 :: u185 :: u186 :: u187 :: u188 :: u189 :: u190 :: u191 :: u192 :: u193 :: u194 :: u195 :: u196 :: u197 :: u198 :: u199 :: u200 :: u201 :: u202 :: u203 :: u204 :: u205 :: u206 :: u207 :: u208 :: u209 :: u210 :: u211 :: u212 :: u213 :: u214 :: u215 :: u216 :: u217 :: u218 :: u219 :: u220 :: u221 :: u222 :: u223 :: u224 :: u225 :: u226 :: u227 :: u228 :: u229 :: u230 :: u231 :: u232 :: u233 :: u234 :: u235 :: u236 :: u237 :: u238 :: u239 :: u240 :: u241 :: u242 :: u243 :: u244 :: u245 :: u246 :: u247 :: u248 :: u249 :: u250 :: u251 :: u252 :: u253 :: u254 :: u255 :: u256 :: u257 :: u258 :: u259 :: u260 :: u261 :: u262 :: u263 :: u264 :: u265 :: u266 :: u267 :: u268 :: u269 :: u270 :: u271 :: u272 :: u273 :: u274 :: u275 :: u276 :: u277 :: u278 :: u279 :: u280 :: u281 :: u282 :: u283 :: u284 :: u285 :: u286 :: u287 :: u288 :: u289 :: u290 :: u291 :: u292 :: u293 :: u294 :: u295 :: u296 :: u297 :: u298 :: u299 :: u300 :: u301 :: u302 :: u303 :: u304 :: u305 :: u306 :: u307 :: u308 :: u309 :: u310 :: u311 :: u312 :: u313 :: []), []⟩ w := by
  subst hnB
  have HK : Hid _ := hkk
  have HKN : Hid _ := hkn
  have HFL : Hid _ := hfl
  have HLN : Hid _ := hln
  have HH : Hid _ := hh
  clear hkk hkn hfl hln hh
  have cc : LabAt w bc 0 c := labAt_of_block hbc
  have hglt : gl < w.heap.size := (hl.lt rfl).1
  have hglc : gl ≠ bc := fun e => hl.ne hbc (by decide) (by rw [← e]; rfl)
  have hgBc : gB ≠ bc := fun e => hB.ne hbc (by decide) (by rw [← e]; rfl)
  have b0 := cc.c0
  have b1 : w.cell? ⟨bc, 1, none⟩ = _ := cc.c1
  have b2 : w.cell? ⟨bc, 2, none⟩ = _ := cc.c2
  have b3 : w.cell? ⟨bc, 3, none⟩ = _ := cc.c3
  have b4 : w.cell? ⟨bc, 4, none⟩ = _ := cc.c4
  have b5 : w.cell? ⟨bc, 5, none⟩ = _ := cc.c5
  have hsl1 : (nK : Int) ≤ ((nK + sp : Nat) : Int) := by omega
  go_step
  refine wp_drop 8 (Try.f5.body.getD .skip) (by kernel_rfl) (fun K hK => ?_)
  conv => arg 2; whnf
  go_wp2
  refine wp_drop 9 (Try.f5.body.getD .skip) (by kernel_rfl) (fun K hK => ?_)
  conv => arg 2; whnf
  go_wp2_with (go_at_call 18; refine (toLabel_any _ _ _ _ _ _ _).mono ?_; rintro e wx ⟨rfl, hb⟩)
  clear b0 b1 b2 b3 b4 b5
  refine wp_drop 10 (Try.f5.body.getD .skip) (by kernel_rfl) (fun K hK => ?_)
  conv => arg 2; whnf
  go_wp2_with (go_at_call 19; refine (makeWays_any _ _ _ _ _).mono ?_; rintro e wy ⟨rfl, hwy⟩; have HWY : Hid _ := hwy; clear hwy)
  refine wp_drop 11 (Try.f5.body.getD .skip) (by kernel_rfl) (fun K hK => ?_)
  conv => arg 2; whnf
  have hwy' : wy = ((wx.alloc (.cells #[.float .f64 c.wt, .float .f64 c.lo, .float .f64 c.de, .int .i64 c.ho, .int .i64 c.st, .int .i64 c.pr] 45)).alloc (.cells #[.slice (some ⟨gl, 0, none⟩) nl capl, .int .i64 st] 64)) := HWY.out
  clear HWY
  have hB3 : Below wx.heap.size wx wy := by rw [hwy']; exact ((Below.refl _ _).alloc (Nat.le_refl _) _).alloc (by simp) _
  have hb3 : Below w.heap.size w wy := hb.trans (hB3.mono hb.size)
  have hp : wy.heap[wx.heap.size + 1]? = some (.cells #[.slice (some ⟨gl, 0, none⟩) nl capl, .int .i64 st] 64 (0, 0)) := by rw [hwy']; exact heap_second _ _ _
  have hcl : wy.heap[wx.heap.size]? = some (.cells #[.float .f64 c.wt, .float .f64 c.lo, .float .f64 c.de, .int .i64 c.ho, .int .i64 c.st, .int .i64 c.pr] 45 (0, 0)) := by
    rw [hwy', Go.heap_alloc_old _ _ (by simp)]; exact Go.heap_alloc_new wx _
  clear hwy'
  have hl3 := hl.below hb3
  have hk3 : Own wy 3 1 (.slice (some ⟨gB, 0, none⟩) nK (nK + sp)) nK (nK + sp) ((backInts kn sp).map (Value.int .i64)) := by
    have h := hB.below hb3
    exact ⟨h.1, by omega, h.2.2.1, .inr ⟨gB, rfl, h.heap⟩⟩
  have ccl := labAt_of_block hcl
  have b0 := ccl.c0
  have b1 : wy.cell? ⟨wx.heap.size, 1, none⟩ = _ := ccl.c1
  have b2 : wy.cell? ⟨wx.heap.size, 2, none⟩ = _ := ccl.c2
  have b3 : wy.cell? ⟨wx.heap.size, 3, none⟩ = _ := ccl.c3
  have b4 : wy.cell? ⟨wx.heap.size, 4, none⟩ = _ := ccl.c4
  have b5 : wy.cell? ⟨wx.heap.size, 5, none⟩ = _ := ccl.c5
  have hfk : ((backInts kn sp).map (Value.int .i64)).take nK = kn.map intv := by rw [← HKN.out]; exact backInts_take kn sp
  have hin' : ∀ a ∈ kn, a < nl := by
    intro a ha
    obtain ⟨j, hj, rfl⟩ := List.getElem_of_mem ha
    have := hin j (by rw [← HKN.out]; exact hj)
    simpa [List.getD, hj] using this
  have HFK : Hid _ := hfk
  clear hfk
  have hpx : W0.heap.size ≤ wx.heap.size := Nat.le_trans hW.size hb.size
  go_wp2_with (go_at_call 20; go_must (refine (zzKeep_miss _ c st (.slice (some ⟨gl, 0, none⟩) nl capl) (.slice (some ⟨gB, 0, none⟩) nK (nK + sp)) nl capl nK (nK + sp) csl ((backInts kn sp).map (Value.int .i64)) ls d kn _ hp hl3 hk3 (by omega) (by omega) HFL.out HLN.out HFK.out HKN.out hin' HH.out).mono ?_); rintro e wz ⟨gl', capl', csl', gk, capk', csk', rfl, hpo⟩)
  clear b0 b1 b2 b3 b4 b5
  refine wp_drop 12 (Try.f5.body.getD .skip) (by kernel_rfl) (fun K hK => ?_)
  conv => arg 2; whnf
  go_wp2
  have hFl : (leftL ls d c kn).length ≤ kn.length := List.length_filter_le _ _
  have hBS : ∀ k, (k = wx.heap.size + 1 ∨ (Value.slice (some ⟨gl, 0, none⟩) nl capl).ownBlock = some k ∨ (Value.slice (some ⟨gB, 0, none⟩) nK (nK + sp)).ownBlock = some k) → W0.heap.size ≤ k := by
    intro k hk
    rcases hk with h | h | h
    · omega
    · have h' : gl = k := by simpa [Value.ownBlock] using h
      exact h' ▸ hgl0
    · have h' : gB = k := by simpa [Value.ownBlock] using h
      exact h' ▸ hgB0
  have hWz : Below W0.heap.size W0 wz := (hW.trans (hb3.mono hW.size)).trans (hpo.but.below (B := W0.heap.size) (Nat.le_trans hpx hB3.size) hBS)
  have hbl := backInts_length kn sp
  have lbc : bc < w.heap.size := cc.lt
  have hbs := hb.size
  have hlab := hpo.lab
  have hltk := hpo.ltk
  have ngl : gl ≠ bc := fun e => hglc e
  have hflat : csl'.take ((nl + 1) * 6) = flat (ls ++ [c]) := by rw [hltk, HFL.out, flat_append]; simp [flat]
  have hlabs := hlab.labs (nl := nl + 1) d hflat (by simp [HLN.out])
  have hlabs0 : Labs wz (some ⟨gl', 0, none⟩) nl gl' 0 ls d := ⟨hlabs.ad ∘ (fun _ => by omega), fun j hj => by
    have h := hlabs.cell j (by omega)
    have e : (ls ++ [c]).getD j d = ls.getD j d := by
      have hj' : j < ls.length := by rw [HLN.out]; exact hj
      simp [List.getD, List.getElem?_append, hj']
    rw [e] at h; exact h⟩
  have hlast : LabAt wz gl' (nl * 6) c := by
    have h := hlabs.cell0 nl (by omega)
    have e : (ls ++ [c]).getD nl d = c := by
      have := HLN.out
      subst this
      simp [List.getD]
    rw [e] at h; exact h
  have hkep := hpo.kep
  have hktk := hpo.ktk
  have hrI : Ints wz (some ⟨gk, 0, none⟩) ((leftL ls d c kn).length + 1) gk 0 (natInts (leftL ls d c kn ++ [nl])) := hkep.ints (m := (leftL ls d c kn).length + 1) (by rw [hktk, natInts_map, List.take_of_length_le (by simp)]) (by simp [natInts_length])
  exact f5_tail13_miss (gG := gl') (nG := nl + 1) (nB := (nK + sp)) (gB := gB) (gR := gk) ks (newBack kn sp (leftL ls d c kn ++ [nl])) (natInts (leftL ls d c kn ++ [nl])) ls d c hWz (by omega) (iK.below hWz)
    (Ints.mk (fun _ => rfl) (fun j hj => by
      rw [Nat.zero_add, cell_of_row wz gB j _ _ _ (hpo.old gB rfl)]
      have e : ((leftL ls d c kn ++ [nl]).map intv ++ ((backInts kn sp).map (Value.int .i64)).drop ((leftL ls d c kn).length + 1)).take (nK + sp) = (newBack kn sp (leftL ls d c kn ++ [nl])).map (Value.int .i64) := by
        rw [newBack_map, HKN.out]; simp
      rw [e]
      have := map_int_at (newBack kn sp (leftL ls d c kn ++ [nl])) j (by rw [newBack_length _ _ _ (by simp; omega), HKN.out]; exact hj)
      simpa using this)) hrI
    (fun j hj => by
      have h0 := newBack_law kn sp (leftL ls d c kn ++ [nl]) j (by rw [HKN.out]; exact hj)
      rw [HKN.out, List.length_append, List.length_singleton] at h0
      rw [h0]
      by_cases h : j < (leftL ls d c kn).length + 1
      · rw [if_pos h, if_pos h]
      · rw [if_neg h, if_neg h]
        by_cases h2 : j < nK
        · rw [if_pos h2, if_pos h2, HK.out j h2]
        · rw [if_neg h2, if_neg h2])
    (by omega) (by omega) (iL.below hWz) hlabs0 rfl rfl hlast ((cc.below hb3).but hpo.but (by
      rintro (h | h | h)
      · omega
      · exact hglc (by simpa [Value.ownBlock] using h)
      · exact hgBc (by simpa [Value.ownBlock] using h)))
    (by rw [cell_of_row wz _ 0 _ _ _ hpo.ptr]; rfl) (by rw [cell_of_row wz _ 1 _ _ _ hpo.ptr]; rfl) kn HKN.out HK.out hin (ccl.but hpo.but (by
      rintro (h | h | h)
      · omega
      · have h' : gl = wx.heap.size := by simpa [Value.ownBlock] using h
        omega
      · exact hk3.ne hcl (by decide) h)) HH.out rfl
    (fun j hj => by rw [natInts_getD _ j (by simp; omega)]; simp [List.getD, List.getElem?_append, hj])
    (by rw [natInts_getD _ _ (by simp)]; simp [List.getD])
end Go.Proofs.Qxb6601457a
