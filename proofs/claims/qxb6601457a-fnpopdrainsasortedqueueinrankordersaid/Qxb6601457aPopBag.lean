import Derived.Test.Qxb6601457aPopSortWalk
namespace Go.Proofs.Qxb6601457a
set_option linter.unusedSimpArgs false
set_option linter.unusedVariables false
open Go.RowKit Go.Sort
attribute [local go_sem] run_store_float

theorem same_eq {x y : Ent} {z : Bool} (h : sameE x y = z) (w : World) :
    Calls Try.prog 12 #[.agg #[.int .i64 x.at_, .float .f64 x.co, .float .f64 x.de, .int .i64 x.ho], .agg #[.int .i64 y.at_, .float .f64 y.co, .float .f64 y.de, .int .i64 y.ho]] w fun e w' => e = .returned (.bool z) ∧ Below w.heap.size w w' := by
  subst h
  exact same_any _ _ _ _ _ _ _ _ w

set_option maxRecDepth 100000 in
set_option maxHeartbeats 3200000 in
theorem multiset_any (a1 a2 : Option Addr) (n c1 c2 b1 o1 b2 o2 : Nat) (l m : List Ent) (w : World) (hn : n ≤ 32768) (E1 : Ents w a1 n b1 o1 l) (E2 : Ents w a2 n b2 o2 m) (nl : ∀ x ∈ l, nn x) (nm : ∀ x ∈ m, nn x) (hb : SB l m) :
    Calls Try.prog 14 #[.slice a1 n c1, .slice a2 n c2] w fun e w' => e = .returned (.bool true) ∧ Below w.heap.size w w' := by
  have HB : Hid _ := hb
  have HL : Hid _ := nl
  have HM : Hid _ := nm
  have HE1 : Hid _ := E1
  have HE2 : Hid _ := E2
  have l1 := E1.len
  have l2 := E2.len
  clear hb nl nm E1 E2
  go_enter Try.func14, Try.ntmps14
  go_wp2_with (go_at_call 16; first | (have HX := HR1; clear HX; go_must (refine (sort_any a2 n c2 b2 o2 m _ hn (HE2.out.below HB1.out) HM.out).mono ?_); rintro e w2 ⟨g2, m2, rfl, r2, hg2, hbel2⟩; have HR2 : Hid _ := r2; have HB2 : Hid _ := hbel2; have HG2 : Hid _ := hg2; clear r2 hbel2 hg2) | (go_must (refine (sort_any a1 n c1 b1 o1 l _ hn HE1.out HL.out).mono ?_); rintro e w1 ⟨g1, m1, rfl, r1, hg1, hbel1⟩; have HR1 : Hid _ := r1; have HB1 : Hid _ := hbel1; clear r1 hbel1 hg1))
  go_loopw [7] (fun i wr => ∃ k : Nat, k ≤ n ∧ i = .int .i64 k ∧ Below w2.heap.size w2 wr) (fun i _ => n - (intOf i).toNat)
  case atStart => exact ⟨0, Nat.zero_le _, rfl, Below.refl _ _⟩
  case round =>
    obtain ⟨k, hk, rfl, hbel⟩ := hrel
    by_cases hlt : k < n
    · have lm1 : m1.length = n := by rw [HR1.out.2.1.length]; omega
      have lm2 : m2.length = n := by rw [HR2.out.2.1.length]; omega
      have R1 := (HR1.out.1.below HB2.out).below hbel
      have R2 := HR2.out.1.below hbel
      have ax := R1.at (j := k) (by omega)
      have ay := R2.at (j := k) (by omega)
      obtain ⟨x, hx⟩ : ∃ x, x = eg m1 k := ⟨_, rfl⟩
      obtain ⟨y, hy⟩ : ∃ y, y = eg m2 k := ⟨_, rfl⟩
      rw [← hx] at ax
      rw [← hy] at ay
      have gx : m1[k]? = some x := by rw [hx]; exact eg_get (by omega)
      have gy : m2[k]? = some y := by rw [hy]; exact eg_get (by omega)
      have hkey := srt_key HR1.out.2.2 HR2.out.2.2 ((HR1.out.2.1.trans HB.out).trans HR2.out.2.1.symm) gx gy
      have nx := (HR1.out.2.1.symm.all HL.out) x (List.mem_of_getElem? gx)
      have ny := (HR2.out.2.1.symm.all HM.out) y (List.mem_of_getElem? gy)
      have hsame : sameE x y = true := (same_iff nx ny).2 hkey
      have HSM : Hid _ := hsame
      have x0 : ∀ d os, (grow (redrawn wr d) os).cell? ⟨g1, k * 4, none⟩ = some (.int .i64 x.at_) := fun d os => (ax.regrown d os).c0
      have x1 : ∀ d os, (grow (redrawn wr d) os).cell? ⟨g1, k * 4 + 1, none⟩ = some (.float .f64 x.co) := fun d os => (ax.regrown d os).c1
      have x2 : ∀ d os, (grow (redrawn wr d) os).cell? ⟨g1, k * 4 + 2, none⟩ = some (.float .f64 x.de) := fun d os => (ax.regrown d os).c2
      have x3 : ∀ d os, (grow (redrawn wr d) os).cell? ⟨g1, k * 4 + 3, none⟩ = some (.int .i64 x.ho) := fun d os => (ax.regrown d os).c3
      have y0 : ∀ d os, (grow (redrawn wr d) os).cell? ⟨g2, k * 4, none⟩ = some (.int .i64 y.at_) := fun d os => (ay.regrown d os).c0
      have y1 : ∀ d os, (grow (redrawn wr d) os).cell? ⟨g2, k * 4 + 1, none⟩ = some (.float .f64 y.co) := fun d os => (ay.regrown d os).c1
      have y2 : ∀ d os, (grow (redrawn wr d) os).cell? ⟨g2, k * 4 + 2, none⟩ = some (.float .f64 y.de) := fun d os => (ay.regrown d os).c2
      have y3 : ∀ d os, (grow (redrawn wr d) os).cell? ⟨g2, k * 4 + 3, none⟩ = some (.int .i64 y.ho) := fun d os => (ay.regrown d os).c3
      clear ax ay R1 R2 hx hy gx gy hkey nx ny hsame lm1 lm2
      go_wp2_with fail
      refine wp_region_quiet_below (by kernel_rfl) (by kernel_rfl) ?_
      repeat (first | go_big_quiet_step ((go_at_call 12; exact Calls.regrown_of (same_eq HSM.out _))) | quiet_step ((go_at_call 12; exact Calls.regrown_of (same_eq HSM.out _))))
      refine wpQuiet_nil ?_
      intro _ hw'
      obtain ⟨⟨dq, osq⟩, hw''⟩ := hw'
      subst hw''
      have hbw := below_regrown wr dq osq
      generalize grow (redrawn wr dq) osq = wq at *
      clear x0 x1 x2 x3 y0 y1 y2 y3
      go_wp2
      go_roundw
      case rel => exact ⟨k + 1, by omega, by go_num, hbel.trans (hbw.mono hbel.size)⟩
      case measure => simp [intOf]; omega
    · go_wp2
      go_ret
      exact ⟨rfl, (HB1.out.trans (HB2.out.mono HB1.out.size)).trans (hbel.mono (Nat.le_trans HB1.out.size HB2.out.size))⟩
end Go.Proofs.Qxb6601457a
