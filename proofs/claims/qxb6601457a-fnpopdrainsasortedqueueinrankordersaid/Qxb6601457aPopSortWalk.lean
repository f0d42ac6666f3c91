import Derived.Test.Qxb6601457aPopMiddle
namespace Go.Proofs.Qxb6601457a
set_option linter.unusedSimpArgs false
set_option linter.unusedVariables false
open Go.RowKit Go.Sort
attribute [local go_sem] run_store_float

set_option maxRecDepth 100000 in
set_option maxHeartbeats 3200000 in
theorem sort_any (a : Option Addr) (n c b o : Nat) (l : List Ent) (w : World) (hn : n ≤ 32768) (hE : Ents w a n b o l) (hnn : ∀ x ∈ l, nn x) :
    Calls Try.prog 16 #[.slice a n c] w fun e w' => ∃ g m, e = .returned (.slice (some ⟨g, 0, none⟩) n n) ∧ (RowE w' g 27 m ∧ SB m l ∧ srt m) ∧ w.heap.size ≤ g ∧ Below w.heap.size w w' := by
  obtain ⟨i27, hi27, hz0, hz1, hz2⟩ := info_parts Try.info27
  have r1 := RowE.made w 27 n
  have E1 : Ents (w.alloc (.cells (madeCells #[.int .i64 0, .float .f64 0, .float .f64 0, .int .i64 0] (n * 4)) 27)) a n b o l := hE.below ((Below.refl _ _).alloc (Nat.le_refl _) _)
  have B1 : Below w.heap.size w (w.alloc (.cells (madeCells #[.int .i64 0, .float .f64 0, .float .f64 0, .int .i64 0] (n * 4)) 27)) := (Below.refl _ _).alloc (Nat.le_refl _) _
  have S1 : (w.alloc (.cells (madeCells #[.int .i64 0, .float .f64 0, .float .f64 0, .int .i64 0] (n * 4)) 27)).heap.size = w.heap.size + 1 := by simp
  have ll := hE.len
  have hcp : ∀ ty, (Builtin.copy_ #[22, 22] ty #[.slice (some ⟨w.heap.size, 0, none⟩) n n, .slice a n c]).run Try.prog (w.alloc (.cells (madeCells #[.int .i64 0, .float .f64 0, .float .f64 0, .int .i64 0] (n * 4)) 27)) = _ :=
    fun ty => run_copy_full _ 22 22 ty 27 i27 Try.underlying22 hi27 w.heap.size n n c a _ 27 (flatE l) r1 (by rw [flatE_length, ll, hz1]) (by simp [flatE_length, ll]) E1.src (flatE_oneCell l)
  have R2 : RowE ((w.alloc (.cells (madeCells #[.int .i64 0, .float .f64 0, .float .f64 0, .int .i64 0] (n * 4)) 27)).setRow w.heap.size (flatE l).toArray) w.heap.size 27 l := setRow_heap _ _ _ _ _ _ r1
  have B2 := below_setRow B1 (Nat.le_refl w.heap.size) (flatE l).toArray
  have S2 : ((w.alloc (.cells (madeCells #[.int .i64 0, .float .f64 0, .float .f64 0, .int .i64 0] (n * 4)) 27)).setRow w.heap.size (flatE l).toArray).heap.size = w.heap.size + 1 := by simp [World.setRow]
  generalize (w.alloc (.cells (madeCells #[.int .i64 0, .float .f64 0, .float .f64 0, .int .i64 0] (n * 4)) 27)).setRow w.heap.size (flatE l).toArray = w2 at hcp R2 B2 S2
  have R3 := RowE.made w2 27 n
  have B3 : Below w2.heap.size w2 (w2.alloc (.cells (madeCells #[.int .i64 0, .float .f64 0, .float .f64 0, .int .i64 0] (n * 4)) 27)) := (Below.refl _ _).alloc (Nat.le_refl _) _
  have R4 := R2.below B3
  have B4 := B2.trans (B3.mono B2.size)
  have HS2 : Hid _ := S2
  have HNN : Hid _ := hnn
  clear hE hnn r1 E1 B1 S1 R2 B2 B3 S2
  have hne : w.heap.size ≠ w2.heap.size := by have := HS2.out; omega
  have hbb : w.heap.size ≤ w2.heap.size := by have := HS2.out; omega
  go_enter Try.func16, Try.ntmps16
  change Code.wp Try.prog (dropSeq 0 (Try.f16.body.getD .skip)) _ _ _
  refine wp_drop 0 _ (by kernel_rfl) (fun K hK => ?_)
  conv => arg 2; whnf
  go_wp2_with fail
  refine wp_drop 1 _ (by kernel_rfl) (fun K hK => ?_)
  conv => arg 2; whnf
  go_wp2_with fail
  refine wp_drop 2 _ (by kernel_rfl) (fun K hK => ?_)
  conv => arg 2; whnf
  go_wp2_with (at_make; go_must (refine wpList_make_exact _ rfl _ _ 22 rfl 27 i27 (.agg #[.int .i64 0, .float .f64 0, .float .f64 0, .int .i64 0]) 4 Try.underlying22 hi27 hz0 hz1 .i64 .i64 _ _ n n rfl rfl rfl rfl (Nat.le_refl _) (by rw [hz2]; omega) (by unfold maxLen; omega) ?_))
  refine wp_drop 3 _ (by kernel_rfl) (fun K hK => ?_)
  conv => arg 2; whnf
  go_wp2_with fail
  refine wp_drop 4 _ (by kernel_rfl) (fun K hK => ?_)
  conv => arg 2; whnf
  go_wp2_with (at_make; go_must (refine wpList_make_exact _ rfl _ _ 22 rfl 27 i27 (.agg #[.int .i64 0, .float .f64 0, .float .f64 0, .int .i64 0]) 4 Try.underlying22 hi27 hz0 hz1 .i64 .i64 _ _ n n rfl rfl rfl rfl (Nat.le_refl _) (by rw [hz2]; omega) (by unfold maxLen; omega) ?_))
  have S0 : SortSt w (w2.alloc (.cells (madeCells #[.int .i64 0, .float .f64 0, .float .f64 0, .int .i64 0] (n * 4)) 27)) n w.heap.size w2.heap.size l (List.replicate n ent0) :=
    ⟨R4, R3, ll, by simp, hne, Nat.le_refl _, hbb, B4⟩
  clear R3 R4 B4 hcp hne hbb
  refine wp_drop 5 _ (by kernel_rfl) (fun K hK => ?_)
  conv => arg 2; whnf
  go_wp2_with fail
  go_loopw [4, 5, 6] (fun s d v wr => ∃ (g1 g2 wd : Nat) (src dst : List Ent), s = .slice (some ⟨g1, 0, none⟩) n n ∧ d = .slice (some ⟨g2, 0, none⟩) n n ∧ v = .int .i64 wd ∧ 1 ≤ wd ∧ wd ≤ 65536 ∧ SortSt w wr n g1 g2 src dst ∧ SB src l ∧ BS src wd) (fun s d v _ => n - (intOf v).toNat)
  case atStart => exact ⟨_, _, 1, l, _, rfl, rfl, rfl, Nat.le_refl _, by omega, S0, SB.refl _, BS.one l⟩
  case round =>
    clear S0
    obtain ⟨g1, g2, wd, src, dst, rfl, rfl, rfl, hwd, hwd2, S, hsb, hbs⟩ := hrel
    have HS : Hid _ := S
    have HSB : Hid _ := hsb
    have HBS : Hid _ := hbs
    clear S hsb hbs
    by_cases hlt : wd < n
    · change Code.wp Try.prog (Code.seq (cfst (roundOf (headSeq (dropSeq 5 (Try.f16.body.getD .skip))))) (Code.seq (Code.block 1 (Code.seq (cfst (bodyOf (roundOf (headSeq (dropSeq 5 (Try.f16.body.getD .skip)))))) (csnd (bodyOf (roundOf (headSeq (dropSeq 5 (Try.f16.body.getD .skip)))))))) (csnd (csnd (roundOf (headSeq (dropSeq 5 (Try.f16.body.getD .skip)))))))) _ _ _
      conv => arg 2; arg 1; whnf
      conv => arg 2; arg 2; arg 2; whnf
      conv => arg 2; arg 2; arg 1; arg 2; arg 2; whnf
      go_wp2_with fail
      refine sort_middle hn HS.out (SB.all (SB.symm HSB.out) HNN.out) HBS.out hwd hlt ?_
      intro y7 y8 y9 y10 y11 y12 y27 y28 y29 y30 y31 y32 y33 y34 y35 y36 y37 y38 y39 y40 y41 y42 y43 y44 y45 y46 y47 y48 y49 y50 y51 y52 y53 y54 y55 y56 y57 y58 y59 y60 y61 y62 y63 y64 y65 y66 y67 y68 y69 y70 y71 y72 y73 y74 y75 y76 y77 y78 y79 y80 y81 y82 y83 y84 y85 y86 y87 y88 y89 y90 y91 y92 y93 y94 w3 dst3 S3 hres
      have HS3 : Hid _ := S3
      have HR : Hid _ := hres
      clear S3 hres
      go_wp2
      go_roundw
      case rel => exact ⟨g2, g1, 2 * wd, dst3, src, rfl, rfl, by go_num, by omega, by omega, HS3.out.swap, SB.trans HR.out.1 HSB.out, HR.out.2⟩
      case measure => simp [intOf]; omega
    · go_wp2
      refine wp_drop 6 _ (by kernel_rfl) (fun K hK => ?_)
      conv => arg 2; whnf
      go_wp2_with fail
      conv => arg 2; whnf
      go_wp2
      go_ret
      exact ⟨g1, src, rfl, ⟨HS.out.r1, HSB.out, BS.done HBS.out (by have := HS.out.ls; omega)⟩, HS.out.b1, HS.out.bel⟩
end Go.Proofs.Qxb6601457a
