import Derived.Test.Qxb6601457aPH
import Derived.Deep.RegionHeld3
namespace Go.Proofs.Qxb6601457a
set_option linter.unusedSimpArgs false
set_option linter.unusedVariables false
open Go.RowKit Go.Sort
attribute [local go_sem] run_store_float

set_option maxRecDepth 100000 in
set_option maxHeartbeats 3200000 in
theorem f4_tail7 {u1 u2 u5 u6 u7 u8 u9 u10 u11 u12 u13 u14 u15 u16 u17 u18 u19 u20 u21 u22 u23 u24 u25 u26 u27 u28 u29 u30 u31 u32 u33 u34 u35 u36 u37 u38 u39 u40 u41 u42 u43 u44 u45 u46 u47 u48 u49 u50 u51 u52 u53 u54 u55 u56 u57 u58 u59 u60 u61 u62 u63 u64 u65 u66 u67 u68 u69 u70 u71 u72 u73 u74 u75 u76 u77 u78 u79 u80 u81 u82 u83 u84 u85 u86 u87 u88 u89 u90 u91 u92 : Value} {W0 w : World} {n c b o : Nat} {a : Option Addr} {h : List Ent} {gs g bq : Nat} {S : List Ent} (hW : Below W0.heap.size W0 w) (bn : n ≤ 32768) (E : Ents W0 a n b o h) (nh : ∀ x ∈ h, nn x) (Q : w.heap[bq]? = some (.cells #[.slice (some ⟨g, 0, none⟩) n n] 29 (0, 0))) (G : RowE w g 31 S) (hS : S.length = n) (ne : bq ≠ g) (hbq : W0.heap.size ≤ bq) (hgg : W0.heap.size ≤ g) (hsb : SB S h) (hp : Heap S n) :
    Code.wp Try.prog (dropSeq 7 (Try.f4.body.getD .skip)) (bodyPost Try.prog Try.f4 fun e w' => e = .returned (.bool true) ∧ Below W0.heap.size W0 w')
      ⟨List.toArray ((.slice a n c) :: u1 :: u2 :: (.slice (some ⟨gs, 0, none⟩) n n) :: (.pointer (some ⟨bq, 0, none⟩)) :: u5 :: u6 :: u7 :: u8 :: u9 :: u10 :: u11 :: u12 :: u13 :: u14 :: u15 :: u16 :: u17 :: u18 :: u19 :: u20 :: u21 :: u22 :: u23 :: u24 :: u25 :: u26 :: u27 :: u28 :: u29 :: u30 :: u31 :: u32 :: u33 :: u34 :: u35 :: u36 :: u37 :: u38 :: u39 :: u40 :: u41 :: u42 :: u43 :: u44 :: u45 :: u46 :: u47 :: u48 :: u49 :: u50 :: u51 :: u52 :: u53 :: u54 :: u55 :: u56 :: u57 :: u58 :: u59 :: u60 :: u61 :: u62 :: u63 :: u64 :: u65 :: u66 :: u67 :: u68 :: u69 :: u70 :: u71 :: u72 :: u73 :: u74 :: u75 :: u76 :: u77 :: u78 :: u79 :: u80 :: u81 :: u82 :: u83 :: u84 :: u85 :: u86 :: u87 :: u88 :: u89 :: u90 :: u91 :: u92 :: []), []⟩ w := by
  obtain ⟨i27, hi27, hz0, hz1, hz2⟩ := info_parts Try.info27
  have B1 : Below w.heap.size w (w.alloc (.cells (madeCells #[.int .i64 0, .float .f64 0, .float .f64 0, .int .i64 0] (n * 4)) 27)) := (Below.refl _ _).alloc (Nat.le_refl _) _
  have hql := (Array.getElem?_eq_some_iff.1 Q).1
  have hgl := G.lt
  have hs := hW.size
  have HR : Hid _ := RowE.made w 27 n
  have HB1 : Hid _ := B1
  have HQ : Hid _ := (B1.block bq hql).trans Q
  have HG : Hid _ := G.below B1
  have HE : Hid _ := E
  have HN : Hid _ := nh
  have HB : Hid _ := hsb
  have HP : Hid _ := hp
  clear E nh Q G hsb hp B1
  go_step
  refine wp_drop 7 _ (by kernel_rfl) (fun K hK => ?_)
  conv => arg 2; whnf
  go_wp2_with (at_make; go_must (refine wpList_make_exact _ rfl _ _ 22 rfl 27 i27 (.agg #[.int .i64 0, .float .f64 0, .float .f64 0, .int .i64 0]) 4 Try.underlying22 hi27 hz0 hz1 .i64 .i64 _ _ 0 n rfl rfl rfl rfl (Nat.zero_le _) (by rw [hz2]; omega) (by unfold maxLen; omega) ?_))
  exact f4_tail8 (hW.trans (HB1.out.mono hs)) bn HE.out HN.out HR.out HQ.out HG.out hS ne (by omega) (by omega) hbq hgg hs HB.out HP.out

set_option maxRecDepth 100000 in
set_option maxHeartbeats 3200000 in
theorem f4_tail6 {u1 u2 u5 u6 u7 u8 u9 u10 u11 u12 u13 u14 u15 u16 u17 u18 u19 u20 u21 u22 u23 u24 u25 u26 u27 u28 u29 u30 u31 u32 u33 u34 u35 u36 u37 u38 u39 u40 u41 u42 u43 u44 u45 u46 u47 u48 u49 u50 u51 u52 u53 u54 u55 u56 u57 u58 u59 u60 u61 u62 u63 u64 u65 u66 u67 u68 u69 u70 u71 u72 u73 u74 u75 u76 u77 u78 u79 u80 u81 u82 u83 u84 u85 u86 u87 u88 u89 u90 u91 u92 : Value} {W0 w : World} {n c b o : Nat} {a : Option Addr} {h : List Ent} {gs g bq : Nat} {S : List Ent} (hW : Below W0.heap.size W0 w) (bn : n ≤ 32768) (E : Ents W0 a n b o h) (nh : ∀ x ∈ h, nn x) (Q : w.heap[bq]? = some (.cells #[.slice (some ⟨g, 0, none⟩) 0 n] 29 (0, 0))) (G : RowE w g 31 (List.replicate n ent0)) (GS : RowE w gs 27 S) (hS : S.length = n) (ne : bq ≠ g) (ngs : gs ≠ g) (nbs : gs ≠ bq) (hbq : W0.heap.size ≤ bq) (hgg : W0.heap.size ≤ g) (hsb : SB S h) (hp : Heap S n) :
    Code.wp Try.prog (dropSeq 6 (Try.f4.body.getD .skip)) (bodyPost Try.prog Try.f4 fun e w' => e = .returned (.bool true) ∧ Below W0.heap.size W0 w')
      ⟨List.toArray ((.slice a n c) :: u1 :: u2 :: (.slice (some ⟨gs, 0, none⟩) n n) :: (.pointer (some ⟨bq, 0, none⟩)) :: u5 :: u6 :: u7 :: u8 :: u9 :: u10 :: u11 :: u12 :: u13 :: u14 :: u15 :: u16 :: u17 :: u18 :: u19 :: u20 :: u21 :: u22 :: u23 :: u24 :: u25 :: u26 :: u27 :: u28 :: u29 :: u30 :: u31 :: u32 :: u33 :: u34 :: u35 :: u36 :: u37 :: u38 :: u39 :: u40 :: u41 :: u42 :: u43 :: u44 :: u45 :: u46 :: u47 :: u48 :: u49 :: u50 :: u51 :: u52 :: u53 :: u54 :: u55 :: u56 :: u57 :: u58 :: u59 :: u60 :: u61 :: u62 :: u63 :: u64 :: u65 :: u66 :: u67 :: u68 :: u69 :: u70 :: u71 :: u72 :: u73 :: u74 :: u75 :: u76 :: u77 :: u78 :: u79 :: u80 :: u81 :: u82 :: u83 :: u84 :: u85 :: u86 :: u87 :: u88 :: u89 :: u90 :: u91 :: u92 :: []), []⟩ w := by
  obtain ⟨i31, hi31, hz0, hz1, hz2⟩ := info_parts Try.info31
  have HE : Hid _ := E
  have HN : Hid _ := nh
  have HB : Hid _ := hsb
  have HP : Hid _ := hp
  have HQ : Hid _ := Q
  have HG : Hid _ := G
  have HS : Hid _ := GS
  clear E nh hsb hp Q G GS
  go_step
  refine wp_drop 6 _ (by kernel_rfl) (fun K hK => ?_)
  conv => arg 2; whnf
  go_wp2_with fail
  go_loopw [5] (fun i wr => ∃ k : Nat, k ≤ n ∧ i = .int .i64 k ∧ wr.heap[bq]? = some (.cells #[.slice (some ⟨g, 0, none⟩) k n] 29 (0, 0)) ∧ RowE wr g 31 (S.take k ++ List.replicate (n - k) ent0) ∧ RowE wr gs 27 S ∧ Below W0.heap.size W0 wr) (fun i _ => n - (intOf i).toNat)
  case atStart => exact ⟨0, Nat.zero_le _, rfl, HQ.out, HG.out, HS.out, hW⟩
  case round =>
    clear HQ HG HS hW
    obtain ⟨k, hk, rfl, Q, G, GS, hbel⟩ := hrel
    by_cases hlt : k < n
    · have hlt' : (k : Int) < n := by omega
      have q0 : wr.cell? ⟨bq, 0, none⟩ = some (.slice (some ⟨g, 0, none⟩) k n) := by rw [cell_of_row wr bq 0 _ _ _ Q]; rfl
      have fq : wr.frozen? ⟨bq, 0, none⟩ = false := frozen_of_row wr bq 0 _ _ Q
      have ax := GS.at (j := k) (by omega)
      obtain ⟨x, hx⟩ : ∃ x, x = eg S k := ⟨_, rfl⟩
      rw [← hx] at ax
      have x0 := ax.c0
      have x1 := ax.c1
      have x2 := ax.c2
      have x3 := ax.c3
      have hbl := ax.lt
      have hql := (Array.getElem?_eq_some_iff.1 Q).1
      have hgl := G.lt
      have nbq : bq ≠ gs := fun e => nbs e.symm
      obtain ⟨A, hA⟩ : ∃ A, A = S.take k := ⟨_, rfl⟩
      obtain ⟨B, hB⟩ : ∃ B, B = List.replicate (n - (k + 1)) ent0 := ⟨_, rfl⟩
      have lA : A.length = k := by rw [hA, List.length_take]; omega
      have lB : B.length = n - (k + 1) := by rw [hB]; simp
      have G1 : RowE wr g 31 (A ++ ent0 :: B) := by
        rw [hA, hB, show ent0 :: List.replicate (n - (k + 1)) ent0 = List.replicate (n - k) ent0 from by rw [show n - k = (n - (k + 1)) + 1 from by omega]; rfl]
        exact G
      have HX : Hid _ := hx
      have HQ : Hid _ := Q
      have HG : Hid _ := G1
      have HS : Hid _ := GS
      have HA : Hid _ := hA
      have HBB : Hid _ := hB
      clear ax hx Q G G1 GS hA hB
      go_wp2_with fail
      refine wp_region_noPanic ?_
      refine wp_region_held_drew (S := (fun w' => w'.cell? ⟨gs, k * 4, none⟩ = some (.int .i64 x.at_) ∧ w'.cell? ⟨gs, k * 4 + 1, none⟩ = some (.float .f64 x.co) ∧ w'.cell? ⟨gs, k * 4 + 2, none⟩ = some (.float .f64 x.de) ∧ w'.cell? ⟨gs, k * 4 + 3, none⟩ = some (.int .i64 x.ho))) (by kernel_rfl) ?_ (fun hHeld => ?_)
      · (try dsimp only) <;> first | done | go_keep
      refine wpAnyH_take (i := 1) (v := ?_) rfl (by kernel_rfl) (by kernel_rfl) (by kernel_rfl) (fun _ _ _ h => h) (Or.inl ⟨by rfl, ?_⟩) (by assumption) ?_
      rotate_left
      · (intro w hSw; (try dsimp only at hSw); go_simp <;> first | done | (with_reducible rfl))
      try simp only [Act.put, List.setIfInBounds_toArray, List.set_cons_zero, List.set_cons_succ]
      refine wpAnyH_take (i := 2) (v := ?_) rfl (by kernel_rfl) (by kernel_rfl) (by kernel_rfl) (fun _ _ _ h => h) (Or.inl ⟨by rfl, ?_⟩) (by assumption) ?_
      rotate_left
      · (intro w hSw; (try dsimp only at hSw); go_simp <;> first | done | (with_reducible rfl))
      try simp only [Act.put, List.setIfInBounds_toArray, List.set_cons_zero, List.set_cons_succ]
      refine wpAnyH_take (i := 3) (v := ?_) rfl (by kernel_rfl) (by kernel_rfl) (by kernel_rfl) (fun _ _ _ h => h) (Or.inl ⟨by rfl, ?_⟩) (by assumption) ?_
      rotate_left
      · (intro w hSw; (try dsimp only at hSw); go_simp <;> first | done | (with_reducible rfl))
      try simp only [Act.put, List.setIfInBounds_toArray, List.set_cons_zero, List.set_cons_succ]
      refine wpAnyH_take (i := 4) (v := ?_) rfl (by kernel_rfl) (by kernel_rfl) (by kernel_rfl) (fun _ _ _ h => h) (Or.inl ⟨by rfl, ?_⟩) (by assumption) ?_
      rotate_left
      · (intro w hSw; (try dsimp only at hSw); go_simp <;> first | done | (with_reducible rfl))
      try simp only [Act.put, List.setIfInBounds_toArray, List.set_cons_zero, List.set_cons_succ]
      refine wpAnyH_take (i := 5) (v := ?_) rfl (by kernel_rfl) (by kernel_rfl) (by kernel_rfl) (fun _ _ _ h => h) (Or.inl ⟨by rfl, ?_⟩) (by assumption) ?_
      rotate_left
      · (intro w hSw; (try dsimp only at hSw); go_simp <;> first | done | (with_reducible rfl))
      try simp only [Act.put, List.setIfInBounds_toArray, List.set_cons_zero, List.set_cons_succ]
      refine wpAnyH_take (i := 6) (v := ?_) rfl (by kernel_rfl) (by kernel_rfl) (by kernel_rfl) (fun _ _ _ h => h) (Or.inl ⟨by rfl, ?_⟩) (by assumption) ?_
      rotate_left
      · (intro w hSw; (try dsimp only at hSw); go_simp <;> first | done | (with_reducible rfl))
      try simp only [Act.put, List.setIfInBounds_toArray, List.set_cons_zero, List.set_cons_succ]
      refine wpAnyH_take (i := 7) (v := ?_) rfl (by kernel_rfl) (by kernel_rfl) (by kernel_rfl) (fun _ _ _ h => h) (Or.inl ⟨by rfl, ?_⟩) (by assumption) ?_
      rotate_left
      · (intro w hSw; (try dsimp only at hSw); go_simp <;> first | done | (with_reducible rfl))
      try simp only [Act.put, List.setIfInBounds_toArray, List.set_cons_zero, List.set_cons_succ]
      refine wpAnyH_take (i := 8) (v := ?_) rfl (by kernel_rfl) (by kernel_rfl) (by kernel_rfl) (fun _ _ _ h => h) (Or.inl ⟨by rfl, ?_⟩) (by assumption) ?_
      rotate_left
      · (intro w hSw; (try dsimp only at hSw); go_simp <;> first | done | (with_reducible rfl))
      try simp only [Act.put, List.setIfInBounds_toArray, List.set_cons_zero, List.set_cons_succ]
      refine wpAnyH_take (i := 9) (v := ?_) rfl (by kernel_rfl) (by kernel_rfl) (by kernel_rfl) (fun _ _ _ h => h) (Or.inl ⟨by rfl, ?_⟩) (by assumption) ?_
      rotate_left
      · (intro w hSw; (try dsimp only at hSw); go_simp <;> first | done | (with_reducible rfl))
      try simp only [Act.put, List.setIfInBounds_toArray, List.set_cons_zero, List.set_cons_succ]
      refine wpAnyH_take (i := 10) (v := ?_) rfl (by kernel_rfl) (by kernel_rfl) (by kernel_rfl) (fun _ _ _ h => h) (Or.inl ⟨by rfl, ?_⟩) (by assumption) ?_
      rotate_left
      · (intro w hSw; (try dsimp only at hSw); go_simp <;> first | done | (with_reducible rfl))
      try simp only [Act.put, List.setIfInBounds_toArray, List.set_cons_zero, List.set_cons_succ]
      refine wpAnyH_take (i := 11) (v := ?_) rfl (by kernel_rfl) (by kernel_rfl) (by kernel_rfl) (fun _ _ _ h => h) (Or.inl ⟨by rfl, ?_⟩) (by assumption) ?_
      rotate_left
      · (intro w hSw; (try dsimp only at hSw); go_simp <;> first | done | (with_reducible rfl))
      try simp only [Act.put, List.setIfInBounds_toArray, List.set_cons_zero, List.set_cons_succ]
      refine wpAnyH_take (i := 12) (v := ?_) rfl (by kernel_rfl) (by kernel_rfl) (by kernel_rfl) (fun _ _ _ h => h) (Or.inl ⟨by rfl, ?_⟩) (by assumption) ?_
      rotate_left
      · (intro w hSw; (try dsimp only at hSw); go_simp <;> first | done | (with_reducible rfl))
      try simp only [Act.put, List.setIfInBounds_toArray, List.set_cons_zero, List.set_cons_succ]
      refine wpAnyH_take (i := 13) (v := ?_) rfl (by kernel_rfl) (by kernel_rfl) (by kernel_rfl) (fun _ _ _ h => h) (Or.inl ⟨by rfl, ?_⟩) (by assumption) ?_
      rotate_left
      · (intro w hSw; (try dsimp only at hSw); go_simp <;> first | done | (with_reducible rfl))
      try simp only [Act.put, List.setIfInBounds_toArray, List.set_cons_zero, List.set_cons_succ]
      refine wpAnyH_take (i := 14) (v := ?_) rfl (by kernel_rfl) (by kernel_rfl) (by kernel_rfl) (fun _ _ _ h => h) (Or.inl ⟨by rfl, ?_⟩) (by assumption) ?_
      rotate_left
      · (intro w hSw; (try dsimp only at hSw); go_simp <;> first | done | (with_reducible rfl))
      try simp only [Act.put, List.setIfInBounds_toArray, List.set_cons_zero, List.set_cons_succ]
      refine wpAnyH_take (i := 15) (v := ?_) rfl (by kernel_rfl) (by kernel_rfl) (by kernel_rfl) (fun _ _ _ h => h) (Or.inl ⟨by rfl, ?_⟩) (by assumption) ?_
      rotate_left
      · (intro w hSw; (try dsimp only at hSw); go_simp <;> first | done | (with_reducible rfl))
      try simp only [Act.put, List.setIfInBounds_toArray, List.set_cons_zero, List.set_cons_succ]
      refine wpAnyH_take (i := 16) (v := ?_) rfl (by kernel_rfl) (by kernel_rfl) (by kernel_rfl) (fun _ _ _ h => h) (Or.inl ⟨by rfl, ?_⟩) (by assumption) ?_
      rotate_left
      · (intro w hSw; (try dsimp only at hSw); go_simp <;> first | done | (with_reducible rfl))
      try simp only [Act.put, List.setIfInBounds_toArray, List.set_cons_zero, List.set_cons_succ]
      refine wpAnyH_take (i := 17) (v := ?_) rfl (by kernel_rfl) (by kernel_rfl) (by kernel_rfl) (fun _ _ _ h => h) (Or.inl ⟨by rfl, ?_⟩) (by assumption) ?_
      rotate_left
      · (intro w hSw; (try dsimp only at hSw); go_simp <;> first | done | (with_reducible rfl))
      try simp only [Act.put, List.setIfInBounds_toArray, List.set_cons_zero, List.set_cons_succ]
      refine wpAnyH_take (i := 18) (v := ?_) rfl (by kernel_rfl) (by kernel_rfl) (by kernel_rfl) (fun _ _ _ h => h) (Or.inl ⟨by rfl, ?_⟩) (by assumption) ?_
      rotate_left
      · (intro w hSw; (try dsimp only at hSw); go_simp <;> first | done | (with_reducible rfl))
      try simp only [Act.put, List.setIfInBounds_toArray, List.set_cons_zero, List.set_cons_succ]
      refine wpAnyH_take (i := 19) (v := ?_) rfl (by kernel_rfl) (by kernel_rfl) (by kernel_rfl) (fun _ _ _ h => h) (Or.inl ⟨by rfl, ?_⟩) (by assumption) ?_
      rotate_left
      · (intro w hSw; (try dsimp only at hSw); go_simp <;> first | done | (with_reducible rfl))
      try simp only [Act.put, List.setIfInBounds_toArray, List.set_cons_zero, List.set_cons_succ]
      refine wpAnyH_take (i := 20) (v := ?_) rfl (by kernel_rfl) (by kernel_rfl) (by kernel_rfl) (fun _ _ _ h => h) (Or.inl ⟨by rfl, ?_⟩) (by assumption) ?_
      rotate_left
      · (intro w hSw; (try dsimp only at hSw); go_simp <;> first | done | (with_reducible rfl))
      try simp only [Act.put, List.setIfInBounds_toArray, List.set_cons_zero, List.set_cons_succ]
      refine wpAnyH_ready (rs := [0, 21]) (by kernel_rfl) (by simp) ?_
      refine AllReadyH.cons rfl (fun K hK => ?_) ?_
      · skip
        go_simp
        refine hK.out _ _ ?_ (fun hHeld => ?_)
        · (try dsimp only) <;> first | done | go_keep
        clear hK K
        try simp only [Act.put, List.setIfInBounds_toArray, List.set_cons_zero, List.set_cons_succ]
        refine wpAnyH_ready (rs := [21]) (by kernel_rfl) (by simp) ?_
        refine AllReadyH.cons rfl (fun K hK => ?_) ?_
        · skip
          go_simp
          go_at_call 10; refine (makeEntry_any _ _ _ _ _).mono ?_; rintro e wx ⟨rfl, hb⟩; have s0 := cell_later hb q0; have s1 := cell_later hb x0; have s2 := cell_later hb x1; have s3 := cell_later hb x2; have s4 := cell_later hb x3; have n0 := World.new_ne wx _ s0; have n1 := World.new_ne wx _ s1; have n2 := World.new_ne wx _ s2; have n3 := World.new_ne wx _ s3; have n4 := World.new_ne wx _ s4; have rx : RowE wx g 31 (A ++ ent0 :: B) := RowE.below (by exact HG.out) hb; have hqx : bq < wx.heap.size := World.block_lt_of_cell? wx _ s0; have hbx : gs < wx.heap.size := World.block_lt_of_cell? wx _ s1; have fqx : wx.frozen? ⟨bq, 0, none⟩ = false := ((bcell hb).2 bq 0 hql).trans fq
          try (go_wp2_with fail)
          refine hK.out _ _ ?_ (fun hHeld => ?_)
          · (try dsimp only) <;> first | done | go_keep
          clear hK K
          try simp only [Act.put, List.setIfInBounds_toArray, List.set_cons_zero, List.set_cons_succ]
          refine wpAnyH_ready (rs := [22]) (by kernel_rfl) (by simp) ?_
          refine AllReadyH.cons rfl (fun K hK => ?_) ?_
          · skip
            go_simp
            refine hK.out _ _ ?_ (fun hHeld => ?_)
            · (try dsimp only) <;> first | done | go_keep
            clear hK K
            try simp only [Act.put, List.setIfInBounds_toArray, List.set_cons_zero, List.set_cons_succ]
            refine wpAnyH_ready (rs := [23]) (by kernel_rfl) (by simp) ?_
            refine AllReadyH.cons rfl (fun K hK => ?_) ?_
            · skip
              refine step_append_exact _ (by rfl) (.tmp 28) (.tmp 50) 29 (by rfl) 31 i31 _ 4 32 Try.underlying29 hi31 hz0 hz1 hz2 rfl (.slice (some ⟨g, 0, none⟩) k n) k n (flatE (A ++ ent0 :: B)) (by rfl) (own_of_row (rx.below (by repeat (first | exact Below.refl _ _ | apply Below.drew | (refine Below.alloc ?_ (by simp) _)))) (by simp [lA, lB]; omega) (by omega) (by omega)) ⟨wx.heap.size, 0, none⟩ 1 (entCells x) (by rfl) (by rfl) (World.news_of_block (cs := #[.int .i64 x.at_, .float .f64 x.co, .float .f64 x.de, .int .i64 x.ho]) (t := 31) (fr := (0, 0)) (Go.heap_alloc_new wx _)) (ent_oneCell x) (by unfold maxLen; omega) (by omega) ?_; intro gl capl' wy csl' hap; have t0 : wy.cell? ⟨bq, 0, none⟩ = some (.slice (some ⟨g, 0, none⟩) k n) := (hap.grow.cell_far ⟨bq, 0, none⟩ (by simp; omega) (by simp [Value.ownBlock]; omega)).trans (cell_later (by repeat (first | exact Below.refl _ _ | apply Below.drew | (refine Below.alloc ?_ (by simp) _))) s0); have t1 : wy.cell? ⟨gs, k * 4, none⟩ = _ := (hap.grow.cell_far ⟨gs, k * 4, none⟩ (by simp; omega) (by simp [Value.ownBlock]; omega)).trans (cell_later (by repeat (first | exact Below.refl _ _ | apply Below.drew | (refine Below.alloc ?_ (by simp) _))) s1); have t2 : wy.cell? ⟨gs, k * 4 + 1, none⟩ = _ := (hap.grow.cell_far ⟨gs, k * 4 + 1, none⟩ (by simp; omega) (by simp [Value.ownBlock]; omega)).trans (cell_later (by repeat (first | exact Below.refl _ _ | apply Below.drew | (refine Below.alloc ?_ (by simp) _))) s2); have t3 : wy.cell? ⟨gs, k * 4 + 2, none⟩ = _ := (hap.grow.cell_far ⟨gs, k * 4 + 2, none⟩ (by simp; omega) (by simp [Value.ownBlock]; omega)).trans (cell_later (by repeat (first | exact Below.refl _ _ | apply Below.drew | (refine Below.alloc ?_ (by simp) _))) s3); have t4 : wy.cell? ⟨gs, k * 4 + 3, none⟩ = _ := (hap.grow.cell_far ⟨gs, k * 4 + 3, none⟩ (by simp; omega) (by simp [Value.ownBlock]; omega)).trans (cell_later (by repeat (first | exact Below.refl _ _ | apply Below.drew | (refine Below.alloc ?_ (by simp) _))) s4); have ty : wy.frozen? ⟨bq, 0, none⟩ = false := (hap.grow.frozen_far ⟨bq, 0, none⟩ (by simp; omega) (by simp [Value.ownBlock]; omega)).trans ((Below.frozen (p := ⟨bq, 0, none⟩) (by repeat (first | exact Below.refl _ _ | apply Below.drew | (refine Below.alloc ?_ (by simp) _))) hqx).trans fqx)
              refine hK.out _ _ ?_ (fun hHeld => ?_)
              · (try dsimp only) <;> first | done | go_keep
              clear hK K
              try simp only [Act.put, List.setIfInBounds_toArray, List.set_cons_zero, List.set_cons_succ]
              refine wpAnyH_ready (rs := [24]) (by kernel_rfl) (by simp) ?_
              refine AllReadyH.cons rfl (fun K hK => ?_) ?_
              · skip
                go_simp
                refine hK.out _ _ ?_ (fun hHeld => ?_)
                · (try dsimp only) <;> first | done | go_keep
                clear hK K
                try simp only [Act.put, List.setIfInBounds_toArray, List.set_cons_zero, List.set_cons_succ]
                refine wpAnyH_done (by kernel_rfl) ?_ _
                refine NoPanic.normal ?_
                obtain ⟨hg', hc', R3⟩ := row_appended lA (by omega) hap
                replace hg' := hg'.symm
                replace hc' := hc'.symm
                subst hg'
                subst hc'
                have Q1 : wx.heap[bq]? = some (.cells #[.slice (some ⟨g, 0, none⟩) k n] 29 (0, 0)) := (hb.block bq hql).trans HQ.out
                have Q2 := (Go.heap_alloc_old wx (.cells #[.int .i64 x.at_, .float .f64 x.co, .float .f64 x.de, .int .i64 x.ho] 31) hqx).trans Q1
                have Q3 := (hap.grow.block bq (by simp; omega) (by simp [Value.ownBlock]; omega)).trans Q2
                have Q4 := heap_setCell_same wy bq 0 _ 29 (.slice (some ⟨g, 0, none⟩) (k + 1) n) Q3
                have R4 : RowE (wy.setCell ⟨bq, 0, none⟩ (.slice (some ⟨g, 0, none⟩) (k + 1) n)) g 31 (S.take (k + 1) ++ List.replicate (n - (k + 1)) ent0) := by
                  have := R3.other (o := 0) (.slice (some ⟨g, 0, none⟩) (k + 1) n) ne
                  rw [List.take_add_one, eg_get (by omega), Option.toList_some, ← HA.out, ← HX.out, List.append_assoc, ← HBB.out]
                  exact this
                have S1 : RowE wx gs 27 S := RowE.below (by exact HS.out) hb
                have S2 := S1.below ((Below.refl wx.heap.size wx).alloc (Nat.le_refl _) (.cells #[.int .i64 x.at_, .float .f64 x.co, .float .f64 x.de, .int .i64 x.ho] 31))
                have S3 : RowE wy gs 27 S := (hap.grow.block gs (by simp; omega) (by simp [Value.ownBlock]; omega)).trans S2
                have S4 : RowE (wy.setCell ⟨bq, 0, none⟩ (.slice (some ⟨g, 0, none⟩) (k + 1) n)) gs 27 S := S3.other _ nbq
                have hb' : Below W0.heap.size wr wx := ⟨hb.os, hb.tape, hb.output, hb.size, fun i hi => hb.block i (Nat.lt_of_lt_of_le hi hbel.size)⟩
                have B1 : Below W0.heap.size W0 wx := hbel.trans hb'
                have B2 := B1.alloc B1.size (.cells #[.int .i64 x.at_, .float .f64 x.co, .float .f64 x.de, .int .i64 x.ho] 31)
                have B3 := (But.of_grown (S := fun q => q = g) hap.grow (fun q hq => by simp [Value.ownBlock] at hq; exact hq.symm)).below B2.size (fun q hq => by rw [hq]; exact hgg)
                have B4 := (B2.trans B3).setCell (p := ⟨bq, 0, none⟩) hbq (.slice (some ⟨g, 0, none⟩) (k + 1) n)
                have HQ4 : Hid _ := Q4
                have HR4 : Hid _ := R4
                have HS4 : Hid _ := S4
                have HB4 : Hid _ := B4
                clear hap Q1 Q2 Q3 Q4 R3 R4 S1 S2 S3 S4 B1 B2 B3 B4 hb' rx
                go_wp2
                go_roundw
                case rel => exact ⟨k + 1, by omega, by go_num, HQ4.out, HR4.out, HS4.out, HB4.out⟩
                case measure => simp [intOf]; omega
              exact AllReadyH.nil
            exact AllReadyH.nil
          exact AllReadyH.nil
        exact AllReadyH.nil
      refine AllReadyH.cons rfl (fun K hK => ?_) ?_
      · skip
        go_simp
        go_at_call 10; refine (makeEntry_any _ _ _ _ _).mono ?_; rintro e wx ⟨rfl, hb⟩; have s0 := cell_later hb q0; have s1 := cell_later hb x0; have s2 := cell_later hb x1; have s3 := cell_later hb x2; have s4 := cell_later hb x3; have n0 := World.new_ne wx _ s0; have n1 := World.new_ne wx _ s1; have n2 := World.new_ne wx _ s2; have n3 := World.new_ne wx _ s3; have n4 := World.new_ne wx _ s4; have rx : RowE wx g 31 (A ++ ent0 :: B) := RowE.below (by exact HG.out) hb; have hqx : bq < wx.heap.size := World.block_lt_of_cell? wx _ s0; have hbx : gs < wx.heap.size := World.block_lt_of_cell? wx _ s1; have fqx : wx.frozen? ⟨bq, 0, none⟩ = false := ((bcell hb).2 bq 0 hql).trans fq
        try (go_wp2_with fail)
        refine hK.out _ _ ?_ (fun hHeld => ?_)
        · (try dsimp only) <;> first | done | go_keep
        clear hK K
        try simp only [Act.put, List.setIfInBounds_toArray, List.set_cons_zero, List.set_cons_succ]
        refine wpAnyH_ready (rs := [0, 22]) (by kernel_rfl) (by simp) ?_
        refine AllReadyH.cons rfl (fun K hK => ?_) ?_
        · skip
          go_simp
          refine hK.out _ _ ?_ (fun hHeld => ?_)
          · (try dsimp only) <;> first | done | go_keep
          clear hK K
          try simp only [Act.put, List.setIfInBounds_toArray, List.set_cons_zero, List.set_cons_succ]
          refine wpAnyH_ready (rs := [22]) (by kernel_rfl) (by simp) ?_
          refine AllReadyH.cons rfl (fun K hK => ?_) ?_
          · skip
            go_simp
            refine hK.out _ _ ?_ (fun hHeld => ?_)
            · (try dsimp only) <;> first | done | go_keep
            clear hK K
            try simp only [Act.put, List.setIfInBounds_toArray, List.set_cons_zero, List.set_cons_succ]
            refine wpAnyH_ready (rs := [23]) (by kernel_rfl) (by simp) ?_
            refine AllReadyH.cons rfl (fun K hK => ?_) ?_
            · skip
              refine step_append_exact _ (by rfl) (.tmp 28) (.tmp 50) 29 (by rfl) 31 i31 _ 4 32 Try.underlying29 hi31 hz0 hz1 hz2 rfl (.slice (some ⟨g, 0, none⟩) k n) k n (flatE (A ++ ent0 :: B)) (by rfl) (own_of_row (rx.below (by repeat (first | exact Below.refl _ _ | apply Below.drew | (refine Below.alloc ?_ (by simp) _)))) (by simp [lA, lB]; omega) (by omega) (by omega)) ⟨wx.heap.size, 0, none⟩ 1 (entCells x) (by rfl) (by rfl) (World.news_of_block (cs := #[.int .i64 x.at_, .float .f64 x.co, .float .f64 x.de, .int .i64 x.ho]) (t := 31) (fr := (0, 0)) (Go.heap_alloc_new wx _)) (ent_oneCell x) (by unfold maxLen; omega) (by omega) ?_; intro gl capl' wy csl' hap; have t0 : wy.cell? ⟨bq, 0, none⟩ = some (.slice (some ⟨g, 0, none⟩) k n) := (hap.grow.cell_far ⟨bq, 0, none⟩ (by simp; omega) (by simp [Value.ownBlock]; omega)).trans (cell_later (by repeat (first | exact Below.refl _ _ | apply Below.drew | (refine Below.alloc ?_ (by simp) _))) s0); have t1 : wy.cell? ⟨gs, k * 4, none⟩ = _ := (hap.grow.cell_far ⟨gs, k * 4, none⟩ (by simp; omega) (by simp [Value.ownBlock]; omega)).trans (cell_later (by repeat (first | exact Below.refl _ _ | apply Below.drew | (refine Below.alloc ?_ (by simp) _))) s1); have t2 : wy.cell? ⟨gs, k * 4 + 1, none⟩ = _ := (hap.grow.cell_far ⟨gs, k * 4 + 1, none⟩ (by simp; omega) (by simp [Value.ownBlock]; omega)).trans (cell_later (by repeat (first | exact Below.refl _ _ | apply Below.drew | (refine Below.alloc ?_ (by simp) _))) s2); have t3 : wy.cell? ⟨gs, k * 4 + 2, none⟩ = _ := (hap.grow.cell_far ⟨gs, k * 4 + 2, none⟩ (by simp; omega) (by simp [Value.ownBlock]; omega)).trans (cell_later (by repeat (first | exact Below.refl _ _ | apply Below.drew | (refine Below.alloc ?_ (by simp) _))) s3); have t4 : wy.cell? ⟨gs, k * 4 + 3, none⟩ = _ := (hap.grow.cell_far ⟨gs, k * 4 + 3, none⟩ (by simp; omega) (by simp [Value.ownBlock]; omega)).trans (cell_later (by repeat (first | exact Below.refl _ _ | apply Below.drew | (refine Below.alloc ?_ (by simp) _))) s4); have ty : wy.frozen? ⟨bq, 0, none⟩ = false := (hap.grow.frozen_far ⟨bq, 0, none⟩ (by simp; omega) (by simp [Value.ownBlock]; omega)).trans ((Below.frozen (p := ⟨bq, 0, none⟩) (by repeat (first | exact Below.refl _ _ | apply Below.drew | (refine Below.alloc ?_ (by simp) _))) hqx).trans fqx)
              refine hK.out _ _ ?_ (fun hHeld => ?_)
              · (try dsimp only) <;> first | done | go_keep
              clear hK K
              try simp only [Act.put, List.setIfInBounds_toArray, List.set_cons_zero, List.set_cons_succ]
              refine wpAnyH_ready (rs := [24]) (by kernel_rfl) (by simp) ?_
              refine AllReadyH.cons rfl (fun K hK => ?_) ?_
              · skip
                go_simp
                refine hK.out _ _ ?_ (fun hHeld => ?_)
                · (try dsimp only) <;> first | done | go_keep
                clear hK K
                try simp only [Act.put, List.setIfInBounds_toArray, List.set_cons_zero, List.set_cons_succ]
                refine wpAnyH_done (by kernel_rfl) ?_ _
                refine NoPanic.normal ?_
                obtain ⟨hg', hc', R3⟩ := row_appended lA (by omega) hap
                replace hg' := hg'.symm
                replace hc' := hc'.symm
                subst hg'
                subst hc'
                have Q1 : wx.heap[bq]? = some (.cells #[.slice (some ⟨g, 0, none⟩) k n] 29 (0, 0)) := (hb.block bq hql).trans HQ.out
                have Q2 := (Go.heap_alloc_old wx (.cells #[.int .i64 x.at_, .float .f64 x.co, .float .f64 x.de, .int .i64 x.ho] 31) hqx).trans Q1
                have Q3 := (hap.grow.block bq (by simp; omega) (by simp [Value.ownBlock]; omega)).trans Q2
                have Q4 := heap_setCell_same wy bq 0 _ 29 (.slice (some ⟨g, 0, none⟩) (k + 1) n) Q3
                have R4 : RowE (wy.setCell ⟨bq, 0, none⟩ (.slice (some ⟨g, 0, none⟩) (k + 1) n)) g 31 (S.take (k + 1) ++ List.replicate (n - (k + 1)) ent0) := by
                  have := R3.other (o := 0) (.slice (some ⟨g, 0, none⟩) (k + 1) n) ne
                  rw [List.take_add_one, eg_get (by omega), Option.toList_some, ← HA.out, ← HX.out, List.append_assoc, ← HBB.out]
                  exact this
                have S1 : RowE wx gs 27 S := RowE.below (by exact HS.out) hb
                have S2 := S1.below ((Below.refl wx.heap.size wx).alloc (Nat.le_refl _) (.cells #[.int .i64 x.at_, .float .f64 x.co, .float .f64 x.de, .int .i64 x.ho] 31))
                have S3 : RowE wy gs 27 S := (hap.grow.block gs (by simp; omega) (by simp [Value.ownBlock]; omega)).trans S2
                have S4 : RowE (wy.setCell ⟨bq, 0, none⟩ (.slice (some ⟨g, 0, none⟩) (k + 1) n)) gs 27 S := S3.other _ nbq
                have hb' : Below W0.heap.size wr wx := ⟨hb.os, hb.tape, hb.output, hb.size, fun i hi => hb.block i (Nat.lt_of_lt_of_le hi hbel.size)⟩
                have B1 : Below W0.heap.size W0 wx := hbel.trans hb'
                have B2 := B1.alloc B1.size (.cells #[.int .i64 x.at_, .float .f64 x.co, .float .f64 x.de, .int .i64 x.ho] 31)
                have B3 := (But.of_grown (S := fun q => q = g) hap.grow (fun q hq => by simp [Value.ownBlock] at hq; exact hq.symm)).below B2.size (fun q hq => by rw [hq]; exact hgg)
                have B4 := (B2.trans B3).setCell (p := ⟨bq, 0, none⟩) hbq (.slice (some ⟨g, 0, none⟩) (k + 1) n)
                have HQ4 : Hid _ := Q4
                have HR4 : Hid _ := R4
                have HS4 : Hid _ := S4
                have HB4 : Hid _ := B4
                clear hap Q1 Q2 Q3 Q4 R3 R4 S1 S2 S3 S4 B1 B2 B3 B4 hb' rx
                go_wp2
                go_roundw
                case rel => exact ⟨k + 1, by omega, by go_num, HQ4.out, HR4.out, HS4.out, HB4.out⟩
                case measure => simp [intOf]; omega
              exact AllReadyH.nil
            exact AllReadyH.nil
          exact AllReadyH.nil
        refine AllReadyH.cons rfl (fun K hK => ?_) ?_
        · skip
          go_simp
          refine hK.out _ _ ?_ (fun hHeld => ?_)
          · (try dsimp only) <;> first | done | go_keep
          clear hK K
          try simp only [Act.put, List.setIfInBounds_toArray, List.set_cons_zero, List.set_cons_succ]
          refine wpAnyH_ready (rs := [0]) (by kernel_rfl) (by simp) ?_
          refine AllReadyH.cons rfl (fun K hK => ?_) ?_
          · skip
            go_simp
            refine hK.out _ _ ?_ (fun hHeld => ?_)
            · (try dsimp only) <;> first | done | go_keep
            clear hK K
            try simp only [Act.put, List.setIfInBounds_toArray, List.set_cons_zero, List.set_cons_succ]
            refine wpAnyH_ready (rs := [23]) (by kernel_rfl) (by simp) ?_
            refine AllReadyH.cons rfl (fun K hK => ?_) ?_
            · skip
              refine step_append_exact _ (by rfl) (.tmp 28) (.tmp 50) 29 (by rfl) 31 i31 _ 4 32 Try.underlying29 hi31 hz0 hz1 hz2 rfl (.slice (some ⟨g, 0, none⟩) k n) k n (flatE (A ++ ent0 :: B)) (by rfl) (own_of_row (rx.below (by repeat (first | exact Below.refl _ _ | apply Below.drew | (refine Below.alloc ?_ (by simp) _)))) (by simp [lA, lB]; omega) (by omega) (by omega)) ⟨wx.heap.size, 0, none⟩ 1 (entCells x) (by rfl) (by rfl) (World.news_of_block (cs := #[.int .i64 x.at_, .float .f64 x.co, .float .f64 x.de, .int .i64 x.ho]) (t := 31) (fr := (0, 0)) (Go.heap_alloc_new wx _)) (ent_oneCell x) (by unfold maxLen; omega) (by omega) ?_; intro gl capl' wy csl' hap; have t0 : wy.cell? ⟨bq, 0, none⟩ = some (.slice (some ⟨g, 0, none⟩) k n) := (hap.grow.cell_far ⟨bq, 0, none⟩ (by simp; omega) (by simp [Value.ownBlock]; omega)).trans (cell_later (by repeat (first | exact Below.refl _ _ | apply Below.drew | (refine Below.alloc ?_ (by simp) _))) s0); have t1 : wy.cell? ⟨gs, k * 4, none⟩ = _ := (hap.grow.cell_far ⟨gs, k * 4, none⟩ (by simp; omega) (by simp [Value.ownBlock]; omega)).trans (cell_later (by repeat (first | exact Below.refl _ _ | apply Below.drew | (refine Below.alloc ?_ (by simp) _))) s1); have t2 : wy.cell? ⟨gs, k * 4 + 1, none⟩ = _ := (hap.grow.cell_far ⟨gs, k * 4 + 1, none⟩ (by simp; omega) (by simp [Value.ownBlock]; omega)).trans (cell_later (by repeat (first | exact Below.refl _ _ | apply Below.drew | (refine Below.alloc ?_ (by simp) _))) s2); have t3 : wy.cell? ⟨gs, k * 4 + 2, none⟩ = _ := (hap.grow.cell_far ⟨gs, k * 4 + 2, none⟩ (by simp; omega) (by simp [Value.ownBlock]; omega)).trans (cell_later (by repeat (first | exact Below.refl _ _ | apply Below.drew | (refine Below.alloc ?_ (by simp) _))) s3); have t4 : wy.cell? ⟨gs, k * 4 + 3, none⟩ = _ := (hap.grow.cell_far ⟨gs, k * 4 + 3, none⟩ (by simp; omega) (by simp [Value.ownBlock]; omega)).trans (cell_later (by repeat (first | exact Below.refl _ _ | apply Below.drew | (refine Below.alloc ?_ (by simp) _))) s4); have ty : wy.frozen? ⟨bq, 0, none⟩ = false := (hap.grow.frozen_far ⟨bq, 0, none⟩ (by simp; omega) (by simp [Value.ownBlock]; omega)).trans ((Below.frozen (p := ⟨bq, 0, none⟩) (by repeat (first | exact Below.refl _ _ | apply Below.drew | (refine Below.alloc ?_ (by simp) _))) hqx).trans fqx)
              refine hK.out _ _ ?_ (fun hHeld => ?_)
              · (try dsimp only) <;> first | done | go_keep
              clear hK K
              try simp only [Act.put, List.setIfInBounds_toArray, List.set_cons_zero, List.set_cons_succ]
              refine wpAnyH_ready (rs := [24]) (by kernel_rfl) (by simp) ?_
              refine AllReadyH.cons rfl (fun K hK => ?_) ?_
              · skip
                go_simp
                refine hK.out _ _ ?_ (fun hHeld => ?_)
                · (try dsimp only) <;> first | done | go_keep
                clear hK K
                try simp only [Act.put, List.setIfInBounds_toArray, List.set_cons_zero, List.set_cons_succ]
                refine wpAnyH_done (by kernel_rfl) ?_ _
                refine NoPanic.normal ?_
                obtain ⟨hg', hc', R3⟩ := row_appended lA (by omega) hap
                replace hg' := hg'.symm
                replace hc' := hc'.symm
                subst hg'
                subst hc'
                have Q1 : wx.heap[bq]? = some (.cells #[.slice (some ⟨g, 0, none⟩) k n] 29 (0, 0)) := (hb.block bq hql).trans HQ.out
                have Q2 := (Go.heap_alloc_old wx (.cells #[.int .i64 x.at_, .float .f64 x.co, .float .f64 x.de, .int .i64 x.ho] 31) hqx).trans Q1
                have Q3 := (hap.grow.block bq (by simp; omega) (by simp [Value.ownBlock]; omega)).trans Q2
                have Q4 := heap_setCell_same wy bq 0 _ 29 (.slice (some ⟨g, 0, none⟩) (k + 1) n) Q3
                have R4 : RowE (wy.setCell ⟨bq, 0, none⟩ (.slice (some ⟨g, 0, none⟩) (k + 1) n)) g 31 (S.take (k + 1) ++ List.replicate (n - (k + 1)) ent0) := by
                  have := R3.other (o := 0) (.slice (some ⟨g, 0, none⟩) (k + 1) n) ne
                  rw [List.take_add_one, eg_get (by omega), Option.toList_some, ← HA.out, ← HX.out, List.append_assoc, ← HBB.out]
                  exact this
                have S1 : RowE wx gs 27 S := RowE.below (by exact HS.out) hb
                have S2 := S1.below ((Below.refl wx.heap.size wx).alloc (Nat.le_refl _) (.cells #[.int .i64 x.at_, .float .f64 x.co, .float .f64 x.de, .int .i64 x.ho] 31))
                have S3 : RowE wy gs 27 S := (hap.grow.block gs (by simp; omega) (by simp [Value.ownBlock]; omega)).trans S2
                have S4 : RowE (wy.setCell ⟨bq, 0, none⟩ (.slice (some ⟨g, 0, none⟩) (k + 1) n)) gs 27 S := S3.other _ nbq
                have hb' : Below W0.heap.size wr wx := ⟨hb.os, hb.tape, hb.output, hb.size, fun i hi => hb.block i (Nat.lt_of_lt_of_le hi hbel.size)⟩
                have B1 : Below W0.heap.size W0 wx := hbel.trans hb'
                have B2 := B1.alloc B1.size (.cells #[.int .i64 x.at_, .float .f64 x.co, .float .f64 x.de, .int .i64 x.ho] 31)
                have B3 := (But.of_grown (S := fun q => q = g) hap.grow (fun q hq => by simp [Value.ownBlock] at hq; exact hq.symm)).below B2.size (fun q hq => by rw [hq]; exact hgg)
                have B4 := (B2.trans B3).setCell (p := ⟨bq, 0, none⟩) hbq (.slice (some ⟨g, 0, none⟩) (k + 1) n)
                have HQ4 : Hid _ := Q4
                have HR4 : Hid _ := R4
                have HS4 : Hid _ := S4
                have HB4 : Hid _ := B4
                clear hap Q1 Q2 Q3 Q4 R3 R4 S1 S2 S3 S4 B1 B2 B3 B4 hb' rx
                go_wp2
                go_roundw
                case rel => exact ⟨k + 1, by omega, by go_num, HQ4.out, HR4.out, HS4.out, HB4.out⟩
                case measure => simp [intOf]; omega
              exact AllReadyH.nil
            exact AllReadyH.nil
          exact AllReadyH.nil
        exact AllReadyH.nil
      exact AllReadyH.nil
    · obtain rfl : k = n := by omega
      have HQ : Hid _ := Q
      have G1 : RowE wr g 31 S := by
        rw [List.take_of_length_le (by omega), Nat.sub_self, List.replicate_zero, List.append_nil] at G
        exact G
      have HG : Hid _ := G1
      clear Q G G1 GS
      go_wp2
      exact f4_tail7 hbel bn HE.out HN.out HQ.out HG.out hS ne hbq hgg HB.out HP.out

end Go.Proofs.Qxb6601457a
