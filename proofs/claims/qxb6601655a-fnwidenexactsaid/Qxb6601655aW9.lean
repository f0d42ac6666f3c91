import Derived.Test.Qxb6601655aW8
namespace Go.Proofs.Qxb6601655a
set_option linter.unusedSimpArgs false
set_option linter.unusedVariables false
open Go.RowKit
attribute [local go_sem] Try.eq45 Try.eq46 Try.eq53 Try.ne45

set_option maxRecDepth 100000 in
set_option maxHeartbeats 1600000 in
theorem widen_memo {bl nl cl nd cd nb cb nw cw bb ob bw ow : Nat} {ac ad aw p0 : Option Addr} {sb : Addr} {bz cz : List Int} {w : World}
    (L : w.heap[bl]? = some (.cells #[.slice ac nl cl, .slice ad nd cd, .slice (some sb) nb cb, .pointer p0] 73 (0, 0)))
    (B : Ints w (some sb) nb bb ob bz) (J : Ints w aw nw bw ow cz) (bn : (nb : Int) ≤ 1048576) (bm : (nw : Int) ≤ 1048576) (he : bz = cz) :
    Calls Try.prog 41 #[.pointer (some ⟨bl, 0, none⟩), .slice aw nw cw] w fun e w' => e = .returned (.pointer p0) ∧ w' = w := by
  have q2 : w.cell? ⟨bl, 2, none⟩ = some (.slice (some sb) nb cb) := by rw [cell_of_row w bl 2 _ _ _ L]; rfl
  have q3 : w.cell? ⟨bl, 3, none⟩ = some (.pointer p0) := by rw [cell_of_row w bl 3 _ _ _ L]; rfl
  have HB : Hid (Ints w (some sb) nb bb ob bz) := B
  have HJ : Hid (Ints w aw nw bw ow cz) := J
  have HE : Hid _ := he
  clear L B J he
  go_enter Try.func41, Try.ntmps41
  go_wp2_with (go_at_call 48; go_must (refine (sameColumns_any _ _ _ _ _ _ _ _ _ _ _ _ _ (by omega) (by omega) HB.out HJ.out).mono ?_); rintro e wx ⟨t, rfl, hr, hwx⟩; subst hwx; (obtain rfl : t = true := hr.2 HE.out); clear hr)
  go_ret
  exact ⟨rfl, rfl⟩

set_option maxRecDepth 100000 in
set_option maxHeartbeats 1600000 in
theorem widen_new {bl nl cl nd cd nb cb nw cw bc oc bb ob bw ow : Nat} {ac ad ab aw p0 : Option Addr} {lz bz cz : List Int} {w : World}
    (L : w.heap[bl]? = some (.cells #[.slice ac nl cl, .slice ad nd cd, .slice ab nb cb, .pointer p0] 73 (0, 0)))
    (I : Ints w ac nl bc oc lz) (B : Ints w ab nb bb ob bz) (J : Ints w aw nw bw ow cz) (al : Asc lz) (acz : Asc cz) (bl0 : (nl : Int) ≤ 1048576) (bn : (nb : Int) ≤ 1048576) (bm : (nw : Int) ≤ 1048576) (he : ab = none ∨ bz ≠ cz) :
    Calls Try.prog 41 #[.pointer (some ⟨bl, 0, none⟩), .slice aw nw cw] w fun e w' => ∃ pg, e = .returned (.pointer pg) ∧ WidenNew w w' bl (.slice ac nl cl) (.slice ad nd cd) (.slice aw nw cw) nd lz cz pg := by
  have q2 : w.cell? ⟨bl, 2, none⟩ = some (.slice ab nb cb) := by rw [cell_of_row w bl 2 _ _ _ L]; rfl
  have HL : Hid (w.heap[bl]? = _) := L
  have HB : Hid (Ints w ab nb bb ob bz) := B
  have HI : Hid (Ints w ac nl bc oc lz) := I
  have HJ : Hid (Ints w aw nw bw ow cz) := J
  have HA : Hid (Asc lz) := al
  have HAC : Hid (Asc cz) := acz
  have HE : Hid _ := he
  clear L B J I al acz he
  cases ab with
  | none =>
    go_enter Try.func41, Try.ntmps41
    refine wp_drop 0 _ (by kernel_rfl) (fun K hK => ?_)
    conv => arg 2; whnf
    go_wp2_with fail
    refine wp_drop 1 _ (by kernel_rfl) (fun K hK => ?_)
    conv => arg 2; whnf
    go_wp2_with fail
    refine wp_drop 2 _ (by kernel_rfl) (fun K hK => ?_)
    conv => arg 2; whnf
    go_wp2_with fail
    refine wp_drop 3 _ (by kernel_rfl) (fun K hK => ?_)
    conv => arg 2; whnf
    go_wp2_with fail
    exact f41_tail4 HL.out (Below.refl _ _) HI.out HJ.out HA.out HAC.out bl0 bm
  | some sb =>
    go_enter Try.func41, Try.ntmps41
    refine wp_drop 0 _ (by kernel_rfl) (fun K hK => ?_)
    conv => arg 2; whnf
    go_wp2_with fail
    refine wp_drop 1 _ (by kernel_rfl) (fun K hK => ?_)
    conv => arg 2; whnf
    go_wp2_with (go_at_call 48; go_must (refine (sameColumns_any _ _ _ _ _ _ _ _ _ _ _ _ _ (by omega) (by omega) HB.out HJ.out).mono ?_); rintro e wx ⟨t, rfl, hr, hwx⟩; subst hwx; (obtain rfl : t = false := by (cases t with | false => rfl | true => (exfalso; rcases HE.out with h | h; (cases h); exact h (hr.1 rfl)))); clear hr)
    refine wp_drop 2 _ (by kernel_rfl) (fun K hK => ?_)
    conv => arg 2; whnf
    go_wp2_with fail
    refine wp_drop 3 _ (by kernel_rfl) (fun K hK => ?_)
    conv => arg 2; whnf
    go_wp2_with fail
    exact f41_tail4 HL.out (Below.refl _ _) HI.out HJ.out HA.out HAC.out bl0 bm
end Go.Proofs.Qxb6601655a
