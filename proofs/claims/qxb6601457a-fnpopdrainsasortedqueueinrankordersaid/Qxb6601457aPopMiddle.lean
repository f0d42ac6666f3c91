import Derived.Test.Qxb6601457aPopInner
namespace Go.Proofs.Qxb6601457a
set_option linter.unusedSimpArgs false
set_option linter.unusedVariables false
open Go.RowKit Go.Sort
attribute [local go_sem] run_store_float

theorem BInv.blocks' {src : List Ent} {w c lo : Nat} (hlo : c * (2 * w) = lo) (hs : BS src w) {mid hi : Nat} (hm : mid = min (lo + w) src.length) (hh : hi = min (lo + 2 * w) src.length) : srt (seg src lo mid) ∧ srt (seg src mid hi) := by
  subst hlo; exact BInv.blocks hs hm hh
theorem BInv.next' {src dst dst' : List Ent} {w c lo mid hi : Nat} (h : BInv src w c dst) (hlo : c * (2 * w) = lo) (hlt : lo < src.length) (hm : mid = min (lo + w) src.length) (hh : hi = min (lo + 2 * w) src.length)
    (g : MInv src lo mid hi mid hi dst' dst) : BInv src w (c + 1) dst' := by
  subst hlo; exact h.next hlt hm hh g

set_option maxRecDepth 100000 in
set_option maxHeartbeats 3200000 in
theorem sort_middle {u0 u1 u2 u7 u8 u9 u10 u11 u12 u13 u14 u15 u16 u17 u18 u19 u20 u21 u22 u23 u24 u25 u26 u27 u28 u29 u30 u31 u32 u33 u34 u35 u36 u37 u38 u39 u40 u41 u42 u43 u44 u45 u46 u47 u48 u49 u50 u51 u52 u53 u54 u55 u56 u57 u58 u59 u60 u61 u62 u63 u64 u65 u66 u67 u68 u69 u70 u71 u72 u73 u74 u75 u76 u77 u78 u79 u80 u81 u82 u83 u84 u85 u86 u87 u88 u89 u90 u91 u92 u93 u94 u95 u96 u97 : Value} {Q : Exit → Act → World → Prop} {w0 wm : World} {n g1 g2 wd : Nat} {src dst0 : List Ent}
    (bn : n ≤ 32768) (S : SortSt w0 wm n g1 g2 src dst0) (nnS : ∀ x ∈ src, nn x) (bs : BS src wd) (hwd : 1 ≤ wd) (hwn : wd < n)
    (hQ : ∀ (v7 v8 v9 v10 v11 v12 v27 v28 v29 v30 v31 v32 v33 v34 v35 v36 v37 v38 v39 v40 v41 v42 v43 v44 v45 v46 v47 v48 v49 v50 v51 v52 v53 v54 v55 v56 v57 v58 v59 v60 v61 v62 v63 v64 v65 v66 v67 v68 v69 v70 v71 v72 v73 v74 v75 v76 v77 v78 v79 v80 v81 v82 v83 v84 v85 v86 v87 v88 v89 v90 v91 v92 v93 v94 : Value) (wr : World) (dst : List Ent), SortSt w0 wr n g1 g2 src dst → SB dst src ∧ BS dst (2 * wd) → Q .normal ⟨List.toArray (u0 :: u1 :: u2 :: (.int .i64 n) :: (.slice (some ⟨g1, 0, none⟩) n n) :: (.slice (some ⟨g2, 0, none⟩) n n) :: (.int .i64 wd) :: v7 :: v8 :: v9 :: v10 :: v11 :: v12 :: u13 :: u14 :: u15 :: u16 :: u17 :: u18 :: u19 :: u20 :: u21 :: u22 :: u23 :: u24 :: u25 :: u26 :: v27 :: v28 :: v29 :: v30 :: v31 :: v32 :: v33 :: v34 :: v35 :: v36 :: v37 :: v38 :: v39 :: v40 :: v41 :: v42 :: v43 :: v44 :: v45 :: v46 :: v47 :: v48 :: v49 :: v50 :: v51 :: v52 :: v53 :: v54 :: v55 :: v56 :: v57 :: v58 :: v59 :: v60 :: v61 :: v62 :: v63 :: v64 :: v65 :: v66 :: v67 :: v68 :: v69 :: v70 :: v71 :: v72 :: v73 :: v74 :: v75 :: v76 :: v77 :: v78 :: v79 :: v80 :: v81 :: v82 :: v83 :: v84 :: v85 :: v86 :: v87 :: v88 :: v89 :: v90 :: v91 :: v92 :: v93 :: v94 :: u95 :: u96 :: u97 :: []), []⟩ wr) :
    Code.wp Try.prog (cfst (bodyOf (roundOf (headSeq (dropSeq 5 (Try.f16.body.getD .skip)))))) Q
      ⟨List.toArray (u0 :: u1 :: u2 :: (.int .i64 n) :: (.slice (some ⟨g1, 0, none⟩) n n) :: (.slice (some ⟨g2, 0, none⟩) n n) :: (.int .i64 wd) :: u7 :: u8 :: u9 :: u10 :: u11 :: u12 :: u13 :: u14 :: u15 :: u16 :: u17 :: u18 :: u19 :: u20 :: u21 :: u22 :: u23 :: u24 :: u25 :: u26 :: u27 :: u28 :: u29 :: u30 :: u31 :: u32 :: u33 :: u34 :: u35 :: u36 :: u37 :: u38 :: u39 :: u40 :: u41 :: u42 :: u43 :: u44 :: u45 :: u46 :: u47 :: u48 :: u49 :: u50 :: u51 :: u52 :: u53 :: u54 :: u55 :: u56 :: u57 :: u58 :: u59 :: u60 :: u61 :: u62 :: u63 :: u64 :: u65 :: u66 :: u67 :: u68 :: u69 :: u70 :: u71 :: u72 :: u73 :: u74 :: u75 :: u76 :: u77 :: u78 :: u79 :: u80 :: u81 :: u82 :: u83 :: u84 :: u85 :: u86 :: u87 :: u88 :: u89 :: u90 :: u91 :: u92 :: u93 :: u94 :: u95 :: u96 :: u97 :: []), []⟩ wm := by
  have HQ : Hid _ := hQ
  have HNN : Hid _ := nnS
  have HBS : Hid _ := bs
  have hls := S.ls
  have hld0 := S.ld
  clear hQ nnS bs
  conv => arg 2; whnf
  go_wp2_with fail
  go_loopw [7] (fun a wr => ∃ (c : Nat) (dst : List Ent), a = .int .i64 ((c * (2 * wd) : Nat) : Int) ∧ c * (2 * wd) ≤ n + 2 * wd ∧ SortSt w0 wr n g1 g2 src dst ∧ BInv src wd c dst) (fun a _ => n - (intOf a).toNat)
  case atStart => exact ⟨0, dst0, by rw [Nat.zero_mul]; rfl, by omega, S, BInv.init wd (by omega)⟩
  case round =>
    clear S
    obtain ⟨c, dst, rfl, hlo2, S, I⟩ := hrel
    have hld := S.ld
    obtain ⟨lo, hlo⟩ : ∃ lo, c * (2 * wd) = lo := ⟨_, rfl⟩
    rw [hlo] at hlo2 ⊢
    by_cases hlt : lo < n
    · have HS : Hid _ := S
      have HI : Hid _ := I
      have HLO : Hid _ := hlo
      clear S I hlo
      change Code.wp Try.prog (Code.seq (cfst (roundOf (cfst (bodyOf (roundOf (headSeq (dropSeq 5 (Try.f16.body.getD .skip)))))))) (Code.seq (Code.block 3 (dropSeq 0 (bodyOf (roundOf (cfst (bodyOf (roundOf (headSeq (dropSeq 5 (Try.f16.body.getD .skip)))))))))) (csnd (csnd (roundOf (cfst (bodyOf (roundOf (headSeq (dropSeq 5 (Try.f16.body.getD .skip))))))))))) _ _ _
      conv => arg 2; arg 1; whnf
      conv => arg 2; arg 2; arg 2; whnf
      go_wp2_with fail
      by_cases m1 : lo + wd ≤ n
      · by_cases m2 : lo + 2 * wd ≤ n
        · skip
          refine wp_drop 0 _ (by kernel_rfl) (fun K hK => ?_)
          conv => arg 2; whnf
          go_wp2_with fail
          refine wp_drop 1 _ (by kernel_rfl) (fun K hK => ?_)
          conv => arg 2; whnf
          go_wp2_with fail
          refine wp_drop 2 _ (by kernel_rfl) (fun K hK => ?_)
          conv => arg 2; whnf
          go_wp2_with fail
          refine wp_drop 3 _ (by kernel_rfl) (fun K hK => ?_)
          conv => arg 2; whnf
          go_wp2_with fail
          refine wp_drop 4 _ (by kernel_rfl) (fun K hK => ?_)
          conv => arg 2; whnf
          go_wp2_with fail
          refine wp_drop 5 _ (by kernel_rfl) (fun K hK => ?_)
          conv => arg 2; whnf
          go_wp2_with fail
          have hmid : (lo + wd) = min (lo + wd) src.length := by rw [hls]; omega
          have hhi : (lo + 2 * wd) = min (lo + 2 * wd) src.length := by rw [hls]; omega
          have bb := BInv.blocks' HLO.out HBS.out hmid hhi
          refine sort_inner (lo := lo) (mid := (lo + wd)) (hi := (lo + 2 * wd)) (by omega) (by omega) bn HS.out HNN.out (MInv.init (by omega) (by omega) (by omega) (by omega) bb.1 bb.2) ?_
          intro y10 y11 y12 y51 y52 y53 y54 y55 y56 y57 y58 y59 y60 y61 y62 y63 y64 y65 y66 y67 y68 y69 y70 y71 y72 y73 y74 y75 y76 y77 y78 y79 y80 y81 y82 y83 y84 y85 y86 y87 y88 y89 y90 y91 y92 y93 y94 w2 dst2 S2 I2
          have BN := HI.out.next' HLO.out (by omega) hmid hhi I2
          have HS2 : Hid _ := S2
          have HBN : Hid _ := BN
          clear bb I2 S2 BN hmid hhi
          go_wp2
          go_roundw
          case rel => exact ⟨c + 1, dst2, by rw [show (c + 1) * (2 * wd) = lo + 2 * wd from by rw [Nat.add_mul, HLO.out]; omega]; go_num, by rw [show (c + 1) * (2 * wd) = lo + 2 * wd from by rw [Nat.add_mul, HLO.out]; omega]; omega, HS2.out, HBN.out⟩
          case measure => simp [intOf]; omega
        · skip
          refine wp_drop 0 _ (by kernel_rfl) (fun K hK => ?_)
          conv => arg 2; whnf
          go_wp2_with fail
          refine wp_drop 1 _ (by kernel_rfl) (fun K hK => ?_)
          conv => arg 2; whnf
          go_wp2_with fail
          refine wp_drop 2 _ (by kernel_rfl) (fun K hK => ?_)
          conv => arg 2; whnf
          go_wp2_with fail
          refine wp_drop 3 _ (by kernel_rfl) (fun K hK => ?_)
          conv => arg 2; whnf
          go_wp2_with fail
          refine wp_drop 4 _ (by kernel_rfl) (fun K hK => ?_)
          conv => arg 2; whnf
          go_wp2_with fail
          refine wp_drop 5 _ (by kernel_rfl) (fun K hK => ?_)
          conv => arg 2; whnf
          go_wp2_with fail
          have hmid : (lo + wd) = min (lo + wd) src.length := by rw [hls]; omega
          have hhi : n = min (lo + 2 * wd) src.length := by rw [hls]; omega
          have bb := BInv.blocks' HLO.out HBS.out hmid hhi
          refine sort_inner (lo := lo) (mid := (lo + wd)) (hi := n) (by omega) (by omega) bn HS.out HNN.out (MInv.init (by omega) (by omega) (by omega) (by omega) bb.1 bb.2) ?_
          intro y10 y11 y12 y51 y52 y53 y54 y55 y56 y57 y58 y59 y60 y61 y62 y63 y64 y65 y66 y67 y68 y69 y70 y71 y72 y73 y74 y75 y76 y77 y78 y79 y80 y81 y82 y83 y84 y85 y86 y87 y88 y89 y90 y91 y92 y93 y94 w2 dst2 S2 I2
          have BN := HI.out.next' HLO.out (by omega) hmid hhi I2
          have HS2 : Hid _ := S2
          have HBN : Hid _ := BN
          clear bb I2 S2 BN hmid hhi
          go_wp2
          go_roundw
          case rel => exact ⟨c + 1, dst2, by rw [show (c + 1) * (2 * wd) = lo + 2 * wd from by rw [Nat.add_mul, HLO.out]; omega]; go_num, by rw [show (c + 1) * (2 * wd) = lo + 2 * wd from by rw [Nat.add_mul, HLO.out]; omega]; omega, HS2.out, HBN.out⟩
          case measure => simp [intOf]; omega
      · have m2 : ¬ lo + 2 * wd ≤ n := by omega
        refine wp_drop 0 _ (by kernel_rfl) (fun K hK => ?_)
        conv => arg 2; whnf
        go_wp2_with fail
        refine wp_drop 1 _ (by kernel_rfl) (fun K hK => ?_)
        conv => arg 2; whnf
        go_wp2_with fail
        refine wp_drop 2 _ (by kernel_rfl) (fun K hK => ?_)
        conv => arg 2; whnf
        go_wp2_with fail
        refine wp_drop 3 _ (by kernel_rfl) (fun K hK => ?_)
        conv => arg 2; whnf
        go_wp2_with fail
        refine wp_drop 4 _ (by kernel_rfl) (fun K hK => ?_)
        conv => arg 2; whnf
        go_wp2_with fail
        refine wp_drop 5 _ (by kernel_rfl) (fun K hK => ?_)
        conv => arg 2; whnf
        go_wp2_with fail
        have hmid : n = min (lo + wd) src.length := by rw [hls]; omega
        have hhi : n = min (lo + 2 * wd) src.length := by rw [hls]; omega
        have bb := BInv.blocks' HLO.out HBS.out hmid hhi
        refine sort_inner (lo := lo) (mid := n) (hi := n) (by omega) (by omega) bn HS.out HNN.out (MInv.init (by omega) (by omega) (by omega) (by omega) bb.1 bb.2) ?_
        intro y10 y11 y12 y51 y52 y53 y54 y55 y56 y57 y58 y59 y60 y61 y62 y63 y64 y65 y66 y67 y68 y69 y70 y71 y72 y73 y74 y75 y76 y77 y78 y79 y80 y81 y82 y83 y84 y85 y86 y87 y88 y89 y90 y91 y92 y93 y94 w2 dst2 S2 I2
        have BN := HI.out.next' HLO.out (by omega) hmid hhi I2
        have HS2 : Hid _ := S2
        have HBN : Hid _ := BN
        clear bb I2 S2 BN hmid hhi
        go_wp2
        go_roundw
        case rel => exact ⟨c + 1, dst2, by rw [show (c + 1) * (2 * wd) = lo + 2 * wd from by rw [Nat.add_mul, HLO.out]; omega]; go_num, by rw [show (c + 1) * (2 * wd) = lo + 2 * wd from by rw [Nat.add_mul, HLO.out]; omega]; omega, HS2.out, HBN.out⟩
        case measure => simp [intOf]; omega
    · go_wp2
      exact HQ.out _ _ _ _ _ _ _ _ _ _ _ _ _ _ _ _ _ _ _ _ _ _ _ _ _ _ _ _ _ _ _ _ _ _ _ _ _ _ _ _ _ _ _ _ _ _ _ _ _ _ _ _ _ _ _ _ _ _ _ _ _ _ _ _ _ _ _ _ _ _ _ _ _ _ wr dst S (I.done (by omega))
end Go.Proofs.Qxb6601457a
