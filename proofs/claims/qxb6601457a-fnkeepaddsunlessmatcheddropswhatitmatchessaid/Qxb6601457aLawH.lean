import Derived.Test.Qxb6601457aLawG
import Derived.Test.Qxb6601457aSeq
import Derived.BigQuiet
namespace Go.Proofs.Qxb6601457a
set_option linter.unusedSimpArgs false
set_option linter.unusedVariables false
open Go.RowKit Go.Sort
attribute [local go_sem] run_store_float

set_option maxRecDepth 100000 in
set_option maxHeartbeats 1600000 in
theorem zzBytes17 (aL aK : Option Addr) (nl cL nK cK : Nat) (st sp : Int) (c : Lab) (w : World) (hl : nl ≤ 9223372036854775807) (hk : nK ≤ 9223372036854775807) :
    Calls Try.prog 17 #[.slice aL nl cL, .int .i64 st, .slice aK nK cK, .int .i64 sp, .agg #[.float .f64 c.wt, .float .f64 c.lo, .float .f64 c.de, .int .i64 c.ho, .int .i64 c.st, .int .i64 c.pr]] w fun e w' => (∃ b, e = .returned (.bool b)) ∧ Below w.heap.size w w' := by
  go_enter Try.func17, Try.ntmps17
  go_wp2
  all_goals (go_ret; exact ⟨⟨_, rfl⟩, (Below.refl _ _).alloc (Nat.le_refl _) _⟩)

set_option maxRecDepth 100000 in
set_option maxHeartbeats 3200000 in
theorem keepAdds_walk (aL aK : Option Addr) (nl cL nK cK bL oL bK oK : Nat) (st sp : Int) (ks : List Int) (ls : List Lab) (d c : Lab) (w : World) (hl : nl ≤ 9223372036854775807) (hk : nK ≤ 9223372036854775807)
    (iK : Ints w aK nK bK oK ks) (iL : Labs w aL nl bL oL ls d) (hln : ls.length = nl) (hak : aK = none → nK = 0) :
    Calls Try.prog 5 #[.slice aL nl cL, .int .i64 st, .slice aK nK cK, .int .i64 sp, .agg #[.float .f64 c.wt, .float .f64 c.lo, .float .f64 c.de, .int .i64 c.ho, .int .i64 c.st, .int .i64 c.pr]] w fun e w' => e = .returned (.bool true) ∧ Below w.heap.size w w' := by
  have HLN : Hid _ := hln
  have HAK : Hid _ := hak
  clear hln hak
  go_enter Try.func5, Try.ntmps5
  change Code.wp Try.prog (dropSeq 0 (Try.f5.body.getD .skip)) _ _ _
  go_step
  refine wp_drop 0 (Try.f5.body.getD .skip) (by kernel_rfl) (fun K hK => ?_)
  conv => arg 2; whnf
  go_wp2
  refine wp_drop 1 (Try.f5.body.getD .skip) (by kernel_rfl) (fun K hK => ?_)
  conv => arg 2; whnf
  go_wp2_with (go_at_call 17; go_must (refine (zzBytes17 _ _ _ _ _ _ _ _ _ _ hl hk).mono ?_); rintro e wx ⟨⟨b, rfl⟩, hb⟩)
  all_goals have hW : Below w.heap.size w wx := ((Below.refl _ _).alloc (Nat.le_refl _) _).trans (hb.mono (by simp))
  · go_ret
    exact ⟨rfl, hW⟩
  · have hbc : wx.heap[w.heap.size]? = some (.cells #[.float .f64 c.wt, .float .f64 c.lo, .float .f64 c.de, .int .i64 c.ho, .int .i64 c.st, .int .i64 c.pr] 41 (0, 0)) := (hb.block w.heap.size (by simp)).trans (Go.heap_alloc_new w _)
    have HBC : Hid _ := hbc
    clear hbc hb
    by_cases hg : nl ≤ 1048576 ∧ nK ≤ 1048576 ∧ 0 ≤ sp ∧ sp ≤ 65536 ∧ 48 * (nl : Int) + 8 * (nK : Int) + 8 * sp ≤ 1048576
    · obtain ⟨g1, g2, g3, g4, g5⟩ := hg
      obtain ⟨sn, rfl⟩ := Int.eq_ofNat_of_zero_le g3
      refine wp_drop 2 (Try.f5.body.getD .skip) (by kernel_rfl) (fun K hK => ?_)
      conv => arg 2; whnf
      go_wp2
      exact f5_tail3 ks ls d c hW g1 g2 iK iL HBC.out HLN.out HAK.out (by omega)
    ·
      refine wp_drop 2 (Try.f5.body.getD .skip) (by kernel_rfl) (fun K hK => ?_)
      conv => arg 2; whnf
      go_wp2
      all_goals (go_ret; exact ⟨rfl, hW⟩)
end Go.Proofs.Qxb6601457a
