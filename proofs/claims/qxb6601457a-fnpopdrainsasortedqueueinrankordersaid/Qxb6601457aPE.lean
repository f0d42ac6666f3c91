import Derived.Test.Qxb6601457aPD
import Derived.Deep.RegionHeld3
namespace Go.Proofs.Qxb6601457a
set_option linter.unusedSimpArgs false
set_option linter.unusedVariables false
open Go.RowKit Go.Sort
attribute [local go_sem] run_store_float

theorem own_of_row {w : World} {g k N : Nat} {row : List Ent} (h : RowE w g 31 row) (hl : row.length = N) (hk : k ≤ N) (hN : N ≤ 32769) : Own w 31 4 (.slice (some ⟨g, 0, none⟩) k N) k N (flatE row) :=
  Own.mk h (by rw [flatE_length, hl]) hk (by unfold maxLen; omega)

/-- append of one entry onto a row with room -/
theorem row_appended {w wx : World} {g k N cap' g' : Nat} {A B : List Ent} {x y : Ent} {cs' : List Value} (hA : A.length = k) (hN : A.length + (B.length + 1) = N)
    (h : Appended w 31 4 (.slice (some ⟨g, 0, none⟩) k N) k N (flatE (A ++ y :: B)) (entCells x) g' cap' wx cs') : g' = g ∧ cap' = N ∧ RowE wx g 31 (A ++ x :: B) := by
  have hlA : (flatE A).length = k * 4 := by rw [flatE_length, hA]
  rcases h.ways with ⟨_, hg, hc, hcs⟩ | ⟨hn, _⟩
  · have hg' : g = g' := by simpa [Value.ownBlock] using hg
    subst hg'
    refine ⟨rfl, hc, ?_⟩
    unfold RowE
    rw [h.own.heap, hcs]
    congr 3
    rw [flatE_append, flatE_append, flatE_cons, flatE_cons, List.append_assoc]
    congr 1
    · rw [← hlA]; simp
    · congr 1
      rw [show (k + 1) * 4 = (flatE A).length + 4 from by omega, List.drop_append, ← List.drop_drop]
      simp [entCells]
  · omega

theorem take_next {h : List Ent} {k n : Nat} (hl : h.length = n + 1) (hk : k < n + 1) : h.take (k + 1) = h.take k ++ [eg h k] := by
  rw [List.take_add_one, eg_get (by omega)]; rfl

theorem ent_oneCell (x : Ent) : ∀ u ∈ entCells x, u.oneCell' = true := by
  intro u hu
  simp [entCells] at hu
  rcases hu with rfl | rfl | rfl | rfl <;> rfl

set_option maxRecDepth 100000 in
set_option maxHeartbeats 3200000 in
theorem f3_tail8 {u1 u2 u3 u6 u7 u8 u9 u10 u11 u12 u13 u14 u15 u16 u17 u18 u19 u20 u21 u22 u23 u24 u25 u26 u27 u28 u29 u30 u31 u32 u33 u34 u35 u36 u37 u38 u39 u40 u41 u42 u43 u44 u45 u46 u47 u48 u49 u50 u51 u52 u53 u54 u55 u56 u57 u58 u59 u60 u61 u62 u63 u64 u65 u66 u67 u68 u69 u70 u71 u72 u73 u74 u75 u76 u77 u78 u79 u80 u81 u82 u83 u84 u85 u86 u87 u88 u89 u90 u91 u92 u93 u94 u95 u96 u97 u98 u99 u100 u101 u102 u103 u104 u105 u106 u107 u108 u109 u110 u111 u112 u113 u114 u115 u116 u117 u118 u119 u120 u121 u122 u123 u124 u125 u126 u127 u128 u129 u130 u131 u132 u133 u134 : Value} {W0 w : World} {n c b o : Nat} {a : Option Addr} {h : List Ent} {g bq : Nat} (hW : Below W0.heap.size W0 w) (bn : n ≤ 32768) (bc : n + 1 ≤ c) (E : Ents W0 a (n + 1) b o h) (nh : ∀ x ∈ h, nn x) (Q : w.heap[bq]? = some (.cells #[.slice (some ⟨g, 0, none⟩) 0 (n + 1)] 29 (0, 0))) (G : RowE w g 31 (List.replicate (n + 1) ent0)) (ne : bq ≠ g) (hbq : W0.heap.size ≤ bq) (hgg : W0.heap.size ≤ g) (hp : Heap h (n + 1)) :
    Code.wp Try.prog (dropSeq 8 (Try.f3.body.getD .skip)) (bodyPost Try.prog Try.f3 fun e w' => e = .returned (.bool true) ∧ Below W0.heap.size W0 w')
      ⟨List.toArray ((.slice a (n + 1) c) :: u1 :: u2 :: u3 :: (.int .i64 n) :: (.pointer (some ⟨bq, 0, none⟩)) :: u6 :: u7 :: u8 :: u9 :: u10 :: u11 :: u12 :: u13 :: u14 :: u15 :: u16 :: u17 :: u18 :: u19 :: u20 :: u21 :: u22 :: u23 :: u24 :: u25 :: u26 :: u27 :: u28 :: u29 :: u30 :: u31 :: u32 :: u33 :: u34 :: u35 :: u36 :: u37 :: u38 :: u39 :: u40 :: u41 :: u42 :: u43 :: u44 :: u45 :: u46 :: u47 :: u48 :: u49 :: u50 :: u51 :: u52 :: u53 :: u54 :: u55 :: u56 :: u57 :: u58 :: u59 :: u60 :: u61 :: u62 :: u63 :: u64 :: u65 :: u66 :: u67 :: u68 :: u69 :: u70 :: u71 :: u72 :: u73 :: u74 :: u75 :: u76 :: u77 :: u78 :: u79 :: u80 :: u81 :: u82 :: u83 :: u84 :: u85 :: u86 :: u87 :: u88 :: u89 :: u90 :: u91 :: u92 :: u93 :: u94 :: u95 :: u96 :: u97 :: u98 :: u99 :: u100 :: u101 :: u102 :: u103 :: u104 :: u105 :: u106 :: u107 :: u108 :: u109 :: u110 :: u111 :: u112 :: u113 :: u114 :: u115 :: u116 :: u117 :: u118 :: u119 :: u120 :: u121 :: u122 :: u123 :: u124 :: u125 :: u126 :: u127 :: u128 :: u129 :: u130 :: u131 :: u132 :: u133 :: u134 :: []), []⟩ w := by
  obtain ⟨i31, hi31, hz0, hz1, hz2⟩ := info_parts Try.info31
  have hl := E.len
  obtain rfl := E.ad (by omega)
  have HE : Hid _ := E
  have HN : Hid _ := nh
  have HP : Hid _ := hp
  have HQ : Hid _ := Q
  have HG : Hid _ := G
  clear E nh hp Q G
  go_step
  refine wp_drop 8 _ (by kernel_rfl) (fun K hK => ?_)
  conv => arg 2; whnf
  go_wp2_with fail
  go_loopw [6] (fun i wr => ∃ k : Nat, k ≤ n + 1 ∧ i = .int .i64 k ∧ wr.heap[bq]? = some (.cells #[.slice (some ⟨g, 0, none⟩) k (n + 1)] 29 (0, 0)) ∧ RowE wr g 31 (h.take k ++ List.replicate (n + 1 - k) ent0) ∧ Below W0.heap.size W0 wr) (fun i _ => n + 1 - (intOf i).toNat)
  case atStart => exact ⟨0, Nat.zero_le _, rfl, HQ.out, HG.out, hW⟩
  case round =>
    clear HQ HG hW
    obtain ⟨k, hk, rfl, Q, G, hbel⟩ := hrel
    by_cases hlt : k < n + 1
    · have hlt' : (k : Int) < (n : Int) + 1 := by omega
      have q0 : wr.cell? ⟨bq, 0, none⟩ = some (.slice (some ⟨g, 0, none⟩) k (n + 1)) := by rw [cell_of_row wr bq 0 _ _ _ Q]; rfl
      have fq : wr.frozen? ⟨bq, 0, none⟩ = false := frozen_of_row wr bq 0 _ _ Q
      have ax := (Ents.below HE.out hbel).cell k hlt
      obtain ⟨x, hx⟩ : ∃ x, x = eg h k := ⟨_, rfl⟩
      rw [← hx] at ax
      have x0 := ax.c0
      have x1 := ax.c1
      have x2 := ax.c2
      have x3 := ax.c3
      have hbl := ax.lt
      have hql := (Array.getElem?_eq_some_iff.1 Q).1
      have hgl := G.lt
      have hbW : b < W0.heap.size := ((Ents.cell HE.out) k hlt).lt
      have nbq : bq ≠ b := by omega
      have nbq' : b ≠ bq := by omega
      obtain ⟨A, hA⟩ : ∃ A, A = h.take k := ⟨_, rfl⟩
      obtain ⟨B, hB⟩ : ∃ B, B = List.replicate (n - k) ent0 := ⟨_, rfl⟩
      have lA : A.length = k := by rw [hA, List.length_take]; omega
      have lB : B.length = n - k := by rw [hB]; simp
      have G1 : RowE wr g 31 (A ++ ent0 :: B) := by
        rw [hA, hB, show ent0 :: List.replicate (n - k) ent0 = List.replicate (n + 1 - k) ent0 from by rw [show n + 1 - k = (n - k) + 1 from by omega]; rfl]
        exact G
      have HX : Hid _ := hx
      have HQ : Hid _ := Q
      have HG : Hid _ := G1
      have HA : Hid _ := hA
      have HBB : Hid _ := hB
      clear ax hx Q G G1 hA hB
      go_wp2_with fail
      refine wp_region_noPanic ?_
      refine wp_region_held_drew (S := (fun w' => w'.cell? ⟨b, o + k * 4, none⟩ = some (.int .i64 x.at_) ∧ w'.cell? ⟨b, o + k * 4 + 1, none⟩ = some (.float .f64 x.co) ∧ w'.cell? ⟨b, o + k * 4 + 2, none⟩ = some (.float .f64 x.de) ∧ w'.cell? ⟨b, o + k * 4 + 3, none⟩ = some (.int .i64 x.ho))) (by kernel_rfl) ?_ (fun hHeld => ?_)
      · (try dsimp only) <;> first | done | go_keep
      refine wpAnyH_take (i := 1) (v := ?_) rfl (by kernel_rfl) (by kernel_rfl) (by kernel_rfl) (fun _ _ _ h => h) (Or.inl ⟨by rfl, ?_⟩) (by assumption) ?_
      rotate_left
      · (intro w hSw; (try dsimp only at hSw); go_simp <;> first | done | (with_reducible rfl))
      try simp only [Act.put, List.setIfInBounds_toArray, List.set_cons_zero, List.set_cons_succ]
      refine wpAnyH_take (i := 2) (v := ?_) rfl (by kernel_rfl) (by kernel_rfl) (by kernel_rfl) (fun _ _ _ h => h) (Or.inl ⟨by rfl, ?_⟩) (by assumption) ?_
      rotate_left
      · (intro w hSw; (try dsimp only at hSw); go_simp <;> first | done | (with_reducible rfl))
      try simp only [Act.put, List.setIfInBounds_toArray, List.set_cons_zero, List.set_cons_succ]
      refine wpAnyH_take (i := 3) (v := ?_) rfl (by kernel_rfl) (by kernel_rfl) (by kernel_rfl) (fun _ _ _ h => h) (Or.inl ⟨by rfl, ?_⟩) (by assumption) ?_
      rotate_left
      · (intro w hSw; (try dsimp only at hSw); go_simp <;> first | done | (with_reducible rfl))
      try simp only [Act.put, List.setIfInBounds_toArray, List.set_cons_zero, List.set_cons_succ]
      refine wpAnyH_take (i := 4) (v := ?_) rfl (by kernel_rfl) (by kernel_rfl) (by kernel_rfl) (fun _ _ _ h => h) (Or.inl ⟨by rfl, ?_⟩) (by assumption) ?_
      rotate_left
      · (intro w hSw; (try dsimp only at hSw); go_simp <;> first | done | (with_reducible rfl))
      try simp only [Act.put, List.setIfInBounds_toArray, List.set_cons_zero, List.set_cons_succ]
      refine wpAnyH_take (i := 5) (v := ?_) rfl (by kernel_rfl) (by kernel_rfl) (by kernel_rfl) (fun _ _ _ h => h) (Or.inl ⟨by rfl, ?_⟩) (by assumption) ?_
      rotate_left
      · (intro w hSw; (try dsimp only at hSw); go_simp <;> first | done | (with_reducible rfl))
      try simp only [Act.put, List.setIfInBounds_toArray, List.set_cons_zero, List.set_cons_succ]
      refine wpAnyH_take (i := 6) (v := ?_) rfl (by kernel_rfl) (by kernel_rfl) (by kernel_rfl) (fun _ _ _ h => h) (Or.inl ⟨by rfl, ?_⟩) (by assumption) ?_
      rotate_left
      · (intro w hSw; (try dsimp only at hSw); go_simp <;> first | done | (with_reducible rfl))
      try simp only [Act.put, List.setIfInBounds_toArray, List.set_cons_zero, List.set_cons_succ]
      refine wpAnyH_take (i := 7) (v := ?_) rfl (by kernel_rfl) (by kernel_rfl) (by kernel_rfl) (fun _ _ _ h => h) (Or.inl ⟨by rfl, ?_⟩) (by assumption) ?_
      rotate_left
      · (intro w hSw; (try dsimp only at hSw); go_simp <;> first | done | (with_reducible rfl))
      try simp only [Act.put, List.setIfInBounds_toArray, List.set_cons_zero, List.set_cons_succ]
      refine wpAnyH_take (i := 8) (v := ?_) rfl (by kernel_rfl) (by kernel_rfl) (by kernel_rfl) (fun _ _ _ h => h) (Or.inl ⟨by rfl, ?_⟩) (by assumption) ?_
      rotate_left
      · (intro w hSw; (try dsimp only at hSw); go_simp <;> first | done | (with_reducible rfl))
      try simp only [Act.put, List.setIfInBounds_toArray, List.set_cons_zero, List.set_cons_succ]
      refine wpAnyH_take (i := 9) (v := ?_) rfl (by kernel_rfl) (by kernel_rfl) (by kernel_rfl) (fun _ _ _ h => h) (Or.inl ⟨by rfl, ?_⟩) (by assumption) ?_
      rotate_left
      · (intro w hSw; (try dsimp only at hSw); go_simp <;> first | done | (with_reducible rfl))
      try simp only [Act.put, List.setIfInBounds_toArray, List.set_cons_zero, List.set_cons_succ]
      refine wpAnyH_take (i := 10) (v := ?_) rfl (by kernel_rfl) (by kernel_rfl) (by kernel_rfl) (fun _ _ _ h => h) (Or.inl ⟨by rfl, ?_⟩) (by assumption) ?_
      rotate_left
      · (intro w hSw; (try dsimp only at hSw); go_simp <;> first | done | (with_reducible rfl))
      try simp only [Act.put, List.setIfInBounds_toArray, List.set_cons_zero, List.set_cons_succ]
      refine wpAnyH_take (i := 11) (v := ?_) rfl (by kernel_rfl) (by kernel_rfl) (by kernel_rfl) (fun _ _ _ h => h) (Or.inl ⟨by rfl, ?_⟩) (by assumption) ?_
      rotate_left
      · (intro w hSw; (try dsimp only at hSw); go_simp <;> first | done | (with_reducible rfl))
      try simp only [Act.put, List.setIfInBounds_toArray, List.set_cons_zero, List.set_cons_succ]
      refine wpAnyH_take (i := 12) (v := ?_) rfl (by kernel_rfl) (by kernel_rfl) (by kernel_rfl) (fun _ _ _ h => h) (Or.inl ⟨by rfl, ?_⟩) (by assumption) ?_
      rotate_left
      · (intro w hSw; (try dsimp only at hSw); go_simp <;> first | done | (with_reducible rfl))
      try simp only [Act.put, List.setIfInBounds_toArray, List.set_cons_zero, List.set_cons_succ]
      refine wpAnyH_take (i := 13) (v := ?_) rfl (by kernel_rfl) (by kernel_rfl) (by kernel_rfl) (fun _ _ _ h => h) (Or.inl ⟨by rfl, ?_⟩) (by assumption) ?_
      rotate_left
      · (intro w hSw; (try dsimp only at hSw); go_simp <;> first | done | (with_reducible rfl))
      try simp only [Act.put, List.setIfInBounds_toArray, List.set_cons_zero, List.set_cons_succ]
      refine wpAnyH_take (i := 14) (v := ?_) rfl (by kernel_rfl) (by kernel_rfl) (by kernel_rfl) (fun _ _ _ h => h) (Or.inl ⟨by rfl, ?_⟩) (by assumption) ?_
      rotate_left
      · (intro w hSw; (try dsimp only at hSw); go_simp <;> first | done | (with_reducible rfl))
      try simp only [Act.put, List.setIfInBounds_toArray, List.set_cons_zero, List.set_cons_succ]
      refine wpAnyH_take (i := 15) (v := ?_) rfl (by kernel_rfl) (by kernel_rfl) (by kernel_rfl) (fun _ _ _ h => h) (Or.inl ⟨by rfl, ?_⟩) (by assumption) ?_
      rotate_left
      · (intro w hSw; (try dsimp only at hSw); go_simp <;> first | done | (with_reducible rfl))
      try simp only [Act.put, List.setIfInBounds_toArray, List.set_cons_zero, List.set_cons_succ]
      refine wpAnyH_take (i := 16) (v := ?_) rfl (by kernel_rfl) (by kernel_rfl) (by kernel_rfl) (fun _ _ _ h => h) (Or.inl ⟨by rfl, ?_⟩) (by assumption) ?_
      rotate_left
      · (intro w hSw; (try dsimp only at hSw); go_simp <;> first | done | (with_reducible rfl))
      try simp only [Act.put, List.setIfInBounds_toArray, List.set_cons_zero, List.set_cons_succ]
      refine wpAnyH_take (i := 17) (v := ?_) rfl (by kernel_rfl) (by kernel_rfl) (by kernel_rfl) (fun _ _ _ h => h) (Or.inl ⟨by rfl, ?_⟩) (by assumption) ?_
      rotate_left
      · (intro w hSw; (try dsimp only at hSw); go_simp <;> first | done | (with_reducible rfl))
      try simp only [Act.put, List.setIfInBounds_toArray, List.set_cons_zero, List.set_cons_succ]
      refine wpAnyH_take (i := 18) (v := ?_) rfl (by kernel_rfl) (by kernel_rfl) (by kernel_rfl) (fun _ _ _ h => h) (Or.inl ⟨by rfl, ?_⟩) (by assumption) ?_
      rotate_left
      · (intro w hSw; (try dsimp only at hSw); go_simp <;> first | done | (with_reducible rfl))
      try simp only [Act.put, List.setIfInBounds_toArray, List.set_cons_zero, List.set_cons_succ]
      refine wpAnyH_take (i := 19) (v := ?_) rfl (by kernel_rfl) (by kernel_rfl) (by kernel_rfl) (fun _ _ _ h => h) (Or.inl ⟨by rfl, ?_⟩) (by assumption) ?_
      rotate_left
      · (intro w hSw; (try dsimp only at hSw); go_simp <;> first | done | (with_reducible rfl))
      try simp only [Act.put, List.setIfInBounds_toArray, List.set_cons_zero, List.set_cons_succ]
      refine wpAnyH_take (i := 20) (v := ?_) rfl (by kernel_rfl) (by kernel_rfl) (by kernel_rfl) (fun _ _ _ h => h) (Or.inl ⟨by rfl, ?_⟩) (by assumption) ?_
      rotate_left
      · (intro w hSw; (try dsimp only at hSw); go_simp <;> first | done | (with_reducible rfl))
      try simp only [Act.put, List.setIfInBounds_toArray, List.set_cons_zero, List.set_cons_succ]
      refine wpAnyH_ready (rs := [0, 21]) (by kernel_rfl) (by simp) ?_
      refine AllReadyH.cons rfl (fun K hK => ?_) ?_
      · skip
        go_simp
        refine hK.out _ _ ?_ (fun hHeld => ?_)
        · (try dsimp only) <;> first | done | go_keep
        clear hK K
        try simp only [Act.put, List.setIfInBounds_toArray, List.set_cons_zero, List.set_cons_succ]
        refine wpAnyH_ready (rs := [21]) (by kernel_rfl) (by simp) ?_
        refine AllReadyH.cons rfl (fun K hK => ?_) ?_
        · skip
          go_simp
          go_at_call 10; refine (makeEntry_any _ _ _ _ _).mono ?_; rintro e wx ⟨rfl, hb⟩; have s0 := cell_later hb q0; have s1 := cell_later hb x0; have s2 := cell_later hb x1; have s3 := cell_later hb x2; have s4 := cell_later hb x3; have n0 := World.new_ne wx _ s0; have n1 := World.new_ne wx _ s1; have n2 := World.new_ne wx _ s2; have n3 := World.new_ne wx _ s3; have n4 := World.new_ne wx _ s4; have rx : RowE wx g 31 (A ++ ent0 :: B) := RowE.below (by exact HG.out) hb; have hqx : bq < wx.heap.size := World.block_lt_of_cell? wx _ s0; have hbx : b < wx.heap.size := World.block_lt_of_cell? wx _ s1; have fqx : wx.frozen? ⟨bq, 0, none⟩ = false := ((bcell hb).2 bq 0 hql).trans fq
          try (go_wp2_with fail)
          refine hK.out _ _ ?_ (fun hHeld => ?_)
          · (try dsimp only) <;> first | done | go_keep
          clear hK K
          try simp only [Act.put, List.setIfInBounds_toArray, List.set_cons_zero, List.set_cons_succ]
          refine wpAnyH_ready (rs := [22]) (by kernel_rfl) (by simp) ?_
          refine AllReadyH.cons rfl (fun K hK => ?_) ?_
          · skip
            go_simp
            refine hK.out _ _ ?_ (fun hHeld => ?_)
            · (try dsimp only) <;> first | done | go_keep
            clear hK K
            try simp only [Act.put, List.setIfInBounds_toArray, List.set_cons_zero, List.set_cons_succ]
            refine wpAnyH_ready (rs := [23]) (by kernel_rfl) (by simp) ?_
            refine AllReadyH.cons rfl (fun K hK => ?_) ?_
            · skip
              refine step_append_exact _ (by rfl) (.tmp 52) (.tmp 74) 29 (by rfl) 31 i31 _ 4 32 Try.underlying29 hi31 hz0 hz1 hz2 rfl (.slice (some ⟨g, 0, none⟩) k (n + 1)) k (n + 1) (flatE (A ++ ent0 :: B)) (by rfl) (own_of_row (rx.below (by repeat (first | exact Below.refl _ _ | apply Below.drew | (refine Below.alloc ?_ (by simp) _)))) (by simp [lA, lB]; omega) (by omega) (by omega)) ⟨wx.heap.size, 0, none⟩ 1 (entCells x) (by rfl) (by rfl) (World.news_of_block (cs := #[.int .i64 x.at_, .float .f64 x.co, .float .f64 x.de, .int .i64 x.ho]) (t := 31) (fr := (0, 0)) (Go.heap_alloc_new wx _)) (ent_oneCell x) (by unfold maxLen; omega) (by omega) ?_; intro gl capl' wy csl' hap; have t0 : wy.cell? ⟨bq, 0, none⟩ = some (.slice (some ⟨g, 0, none⟩) k (n + 1)) := (hap.grow.cell_far ⟨bq, 0, none⟩ (by simp; omega) (by simp [Value.ownBlock]; omega)).trans (cell_later (by repeat (first | exact Below.refl _ _ | apply Below.drew | (refine Below.alloc ?_ (by simp) _))) s0); have t1 : wy.cell? ⟨b, o + k * 4, none⟩ = _ := (hap.grow.cell_far ⟨b, o + k * 4, none⟩ (by simp; omega) (by simp [Value.ownBlock]; omega)).trans (cell_later (by repeat (first | exact Below.refl _ _ | apply Below.drew | (refine Below.alloc ?_ (by simp) _))) s1); have t2 : wy.cell? ⟨b, o + k * 4 + 1, none⟩ = _ := (hap.grow.cell_far ⟨b, o + k * 4 + 1, none⟩ (by simp; omega) (by simp [Value.ownBlock]; omega)).trans (cell_later (by repeat (first | exact Below.refl _ _ | apply Below.drew | (refine Below.alloc ?_ (by simp) _))) s2); have t3 : wy.cell? ⟨b, o + k * 4 + 2, none⟩ = _ := (hap.grow.cell_far ⟨b, o + k * 4 + 2, none⟩ (by simp; omega) (by simp [Value.ownBlock]; omega)).trans (cell_later (by repeat (first | exact Below.refl _ _ | apply Below.drew | (refine Below.alloc ?_ (by simp) _))) s3); have t4 : wy.cell? ⟨b, o + k * 4 + 3, none⟩ = _ := (hap.grow.cell_far ⟨b, o + k * 4 + 3, none⟩ (by simp; omega) (by simp [Value.ownBlock]; omega)).trans (cell_later (by repeat (first | exact Below.refl _ _ | apply Below.drew | (refine Below.alloc ?_ (by simp) _))) s4); have ty : wy.frozen? ⟨bq, 0, none⟩ = false := (hap.grow.frozen_far ⟨bq, 0, none⟩ (by simp; omega) (by simp [Value.ownBlock]; omega)).trans ((Below.frozen (p := ⟨bq, 0, none⟩) (by repeat (first | exact Below.refl _ _ | apply Below.drew | (refine Below.alloc ?_ (by simp) _))) hqx).trans fqx)
              refine hK.out _ _ ?_ (fun hHeld => ?_)
              · (try dsimp only) <;> first | done | go_keep
              clear hK K
              try simp only [Act.put, List.setIfInBounds_toArray, List.set_cons_zero, List.set_cons_succ]
              refine wpAnyH_ready (rs := [24]) (by kernel_rfl) (by simp) ?_
              refine AllReadyH.cons rfl (fun K hK => ?_) ?_
              · skip
                go_simp
                refine hK.out _ _ ?_ (fun hHeld => ?_)
                · (try dsimp only) <;> first | done | go_keep
                clear hK K
                try simp only [Act.put, List.setIfInBounds_toArray, List.set_cons_zero, List.set_cons_succ]
                refine wpAnyH_done (by kernel_rfl) ?_ _
                refine NoPanic.normal ?_
                obtain ⟨rfl, rfl, R3⟩ := row_appended lA (by omega) hap
                have Q1 : wx.heap[bq]? = some (.cells #[.slice (some ⟨gl, 0, none⟩) k (n + 1)] 29 (0, 0)) := (hb.block bq hql).trans HQ.out
                have Q2 := (Go.heap_alloc_old wx (.cells #[.int .i64 x.at_, .float .f64 x.co, .float .f64 x.de, .int .i64 x.ho] 31) hqx).trans Q1
                have Q3 := (hap.grow.block bq (by simp; omega) (by simp [Value.ownBlock]; omega)).trans Q2
                have Q4 := heap_setCell_same wy bq 0 _ 29 (.slice (some ⟨gl, 0, none⟩) (k + 1) (n + 1)) Q3
                have R4 : RowE (wy.setCell ⟨bq, 0, none⟩ (.slice (some ⟨gl, 0, none⟩) (k + 1) (n + 1))) gl 31 (h.take (k + 1) ++ List.replicate (n + 1 - (k + 1)) ent0) := by
                  have := R3.other (o := 0) (.slice (some ⟨gl, 0, none⟩) (k + 1) (n + 1)) ne
                  rw [take_next hl hlt, ← HA.out, ← HX.out, List.append_assoc, show n + 1 - (k + 1) = n - k from by omega, ← HBB.out]
                  exact this
                have hb' : Below W0.heap.size wr wx := ⟨hb.os, hb.tape, hb.output, hb.size, fun i hi => hb.block i (Nat.lt_of_lt_of_le hi hbel.size)⟩
                have B1 : Below W0.heap.size W0 wx := hbel.trans hb'
                have B2 := B1.alloc B1.size (.cells #[.int .i64 x.at_, .float .f64 x.co, .float .f64 x.de, .int .i64 x.ho] 31)
                have B3 := (But.of_grown (S := fun q => q = gl) hap.grow (fun q hq => by simp [Value.ownBlock] at hq; exact hq.symm)).below B2.size (fun q hq => by rw [hq]; exact hgg)
                have B4 := (B2.trans B3).setCell (p := ⟨bq, 0, none⟩) hbq (.slice (some ⟨gl, 0, none⟩) (k + 1) (n + 1))
                have HQ4 : Hid _ := Q4
                have HR4 : Hid _ := R4
                have HB4 : Hid _ := B4
                clear hap Q1 Q2 Q3 Q4 R3 R4 B1 B2 B3 B4 hb' rx
                go_wp2
                go_roundw
                case rel => exact ⟨k + 1, by omega, by go_num, HQ4.out, HR4.out, HB4.out⟩
                case measure => simp [intOf]; omega
              exact AllReadyH.nil
            exact AllReadyH.nil
          exact AllReadyH.nil
        exact AllReadyH.nil
      refine AllReadyH.cons rfl (fun K hK => ?_) ?_
      · skip
        go_simp
        go_at_call 10; refine (makeEntry_any _ _ _ _ _).mono ?_; rintro e wx ⟨rfl, hb⟩; have s0 := cell_later hb q0; have s1 := cell_later hb x0; have s2 := cell_later hb x1; have s3 := cell_later hb x2; have s4 := cell_later hb x3; have n0 := World.new_ne wx _ s0; have n1 := World.new_ne wx _ s1; have n2 := World.new_ne wx _ s2; have n3 := World.new_ne wx _ s3; have n4 := World.new_ne wx _ s4; have rx : RowE wx g 31 (A ++ ent0 :: B) := RowE.below (by exact HG.out) hb; have hqx : bq < wx.heap.size := World.block_lt_of_cell? wx _ s0; have hbx : b < wx.heap.size := World.block_lt_of_cell? wx _ s1; have fqx : wx.frozen? ⟨bq, 0, none⟩ = false := ((bcell hb).2 bq 0 hql).trans fq
        try (go_wp2_with fail)
        refine hK.out _ _ ?_ (fun hHeld => ?_)
        · (try dsimp only) <;> first | done | go_keep
        clear hK K
        try simp only [Act.put, List.setIfInBounds_toArray, List.set_cons_zero, List.set_cons_succ]
        refine wpAnyH_ready (rs := [0, 22]) (by kernel_rfl) (by simp) ?_
        refine AllReadyH.cons rfl (fun K hK => ?_) ?_
        · skip
          go_simp
          refine hK.out _ _ ?_ (fun hHeld => ?_)
          · (try dsimp only) <;> first | done | go_keep
          clear hK K
          try simp only [Act.put, List.setIfInBounds_toArray, List.set_cons_zero, List.set_cons_succ]
          refine wpAnyH_ready (rs := [22]) (by kernel_rfl) (by simp) ?_
          refine AllReadyH.cons rfl (fun K hK => ?_) ?_
          · skip
            go_simp
            refine hK.out _ _ ?_ (fun hHeld => ?_)
            · (try dsimp only) <;> first | done | go_keep
            clear hK K
            try simp only [Act.put, List.setIfInBounds_toArray, List.set_cons_zero, List.set_cons_succ]
            refine wpAnyH_ready (rs := [23]) (by kernel_rfl) (by simp) ?_
            refine AllReadyH.cons rfl (fun K hK => ?_) ?_
            · skip
              refine step_append_exact _ (by rfl) (.tmp 52) (.tmp 74) 29 (by rfl) 31 i31 _ 4 32 Try.underlying29 hi31 hz0 hz1 hz2 rfl (.slice (some ⟨g, 0, none⟩) k (n + 1)) k (n + 1) (flatE (A ++ ent0 :: B)) (by rfl) (own_of_row (rx.below (by repeat (first | exact Below.refl _ _ | apply Below.drew | (refine Below.alloc ?_ (by simp) _)))) (by simp [lA, lB]; omega) (by omega) (by omega)) ⟨wx.heap.size, 0, none⟩ 1 (entCells x) (by rfl) (by rfl) (World.news_of_block (cs := #[.int .i64 x.at_, .float .f64 x.co, .float .f64 x.de, .int .i64 x.ho]) (t := 31) (fr := (0, 0)) (Go.heap_alloc_new wx _)) (ent_oneCell x) (by unfold maxLen; omega) (by omega) ?_; intro gl capl' wy csl' hap; have t0 : wy.cell? ⟨bq, 0, none⟩ = some (.slice (some ⟨g, 0, none⟩) k (n + 1)) := (hap.grow.cell_far ⟨bq, 0, none⟩ (by simp; omega) (by simp [Value.ownBlock]; omega)).trans (cell_later (by repeat (first | exact Below.refl _ _ | apply Below.drew | (refine Below.alloc ?_ (by simp) _))) s0); have t1 : wy.cell? ⟨b, o + k * 4, none⟩ = _ := (hap.grow.cell_far ⟨b, o + k * 4, none⟩ (by simp; omega) (by simp [Value.ownBlock]; omega)).trans (cell_later (by repeat (first | exact Below.refl _ _ | apply Below.drew | (refine Below.alloc ?_ (by simp) _))) s1); have t2 : wy.cell? ⟨b, o + k * 4 + 1, none⟩ = _ := (hap.grow.cell_far ⟨b, o + k * 4 + 1, none⟩ (by simp; omega) (by simp [Value.ownBlock]; omega)).trans (cell_later (by repeat (first | exact Below.refl _ _ | apply Below.drew | (refine Below.alloc ?_ (by simp) _))) s2); have t3 : wy.cell? ⟨b, o + k * 4 + 2, none⟩ = _ := (hap.grow.cell_far ⟨b, o + k * 4 + 2, none⟩ (by simp; omega) (by simp [Value.ownBlock]; omega)).trans (cell_later (by repeat (first | exact Below.refl _ _ | apply Below.drew | (refine Below.alloc ?_ (by simp) _))) s3); have t4 : wy.cell? ⟨b, o + k * 4 + 3, none⟩ = _ := (hap.grow.cell_far ⟨b, o + k * 4 + 3, none⟩ (by simp; omega) (by simp [Value.ownBlock]; omega)).trans (cell_later (by repeat (first | exact Below.refl _ _ | apply Below.drew | (refine Below.alloc ?_ (by simp) _))) s4); have ty : wy.frozen? ⟨bq, 0, none⟩ = false := (hap.grow.frozen_far ⟨bq, 0, none⟩ (by simp; omega) (by simp [Value.ownBlock]; omega)).trans ((Below.frozen (p := ⟨bq, 0, none⟩) (by repeat (first | exact Below.refl _ _ | apply Below.drew | (refine Below.alloc ?_ (by simp) _))) hqx).trans fqx)
              refine hK.out _ _ ?_ (fun hHeld => ?_)
              · (try dsimp only) <;> first | done | go_keep
              clear hK K
              try simp only [Act.put, List.setIfInBounds_toArray, List.set_cons_zero, List.set_cons_succ]
              refine wpAnyH_ready (rs := [24]) (by kernel_rfl) (by simp) ?_
              refine AllReadyH.cons rfl (fun K hK => ?_) ?_
              · skip
                go_simp
                refine hK.out _ _ ?_ (fun hHeld => ?_)
                · (try dsimp only) <;> first | done | go_keep
                clear hK K
                try simp only [Act.put, List.setIfInBounds_toArray, List.set_cons_zero, List.set_cons_succ]
                refine wpAnyH_done (by kernel_rfl) ?_ _
                refine NoPanic.normal ?_
                obtain ⟨rfl, rfl, R3⟩ := row_appended lA (by omega) hap
                have Q1 : wx.heap[bq]? = some (.cells #[.slice (some ⟨gl, 0, none⟩) k (n + 1)] 29 (0, 0)) := (hb.block bq hql).trans HQ.out
                have Q2 := (Go.heap_alloc_old wx (.cells #[.int .i64 x.at_, .float .f64 x.co, .float .f64 x.de, .int .i64 x.ho] 31) hqx).trans Q1
                have Q3 := (hap.grow.block bq (by simp; omega) (by simp [Value.ownBlock]; omega)).trans Q2
                have Q4 := heap_setCell_same wy bq 0 _ 29 (.slice (some ⟨gl, 0, none⟩) (k + 1) (n + 1)) Q3
                have R4 : RowE (wy.setCell ⟨bq, 0, none⟩ (.slice (some ⟨gl, 0, none⟩) (k + 1) (n + 1))) gl 31 (h.take (k + 1) ++ List.replicate (n + 1 - (k + 1)) ent0) := by
                  have := R3.other (o := 0) (.slice (some ⟨gl, 0, none⟩) (k + 1) (n + 1)) ne
                  rw [take_next hl hlt, ← HA.out, ← HX.out, List.append_assoc, show n + 1 - (k + 1) = n - k from by omega, ← HBB.out]
                  exact this
                have hb' : Below W0.heap.size wr wx := ⟨hb.os, hb.tape, hb.output, hb.size, fun i hi => hb.block i (Nat.lt_of_lt_of_le hi hbel.size)⟩
                have B1 : Below W0.heap.size W0 wx := hbel.trans hb'
                have B2 := B1.alloc B1.size (.cells #[.int .i64 x.at_, .float .f64 x.co, .float .f64 x.de, .int .i64 x.ho] 31)
                have B3 := (But.of_grown (S := fun q => q = gl) hap.grow (fun q hq => by simp [Value.ownBlock] at hq; exact hq.symm)).below B2.size (fun q hq => by rw [hq]; exact hgg)
                have B4 := (B2.trans B3).setCell (p := ⟨bq, 0, none⟩) hbq (.slice (some ⟨gl, 0, none⟩) (k + 1) (n + 1))
                have HQ4 : Hid _ := Q4
                have HR4 : Hid _ := R4
                have HB4 : Hid _ := B4
                clear hap Q1 Q2 Q3 Q4 R3 R4 B1 B2 B3 B4 hb' rx
                go_wp2
                go_roundw
                case rel => exact ⟨k + 1, by omega, by go_num, HQ4.out, HR4.out, HB4.out⟩
                case measure => simp [intOf]; omega
              exact AllReadyH.nil
            exact AllReadyH.nil
          exact AllReadyH.nil
        refine AllReadyH.cons rfl (fun K hK => ?_) ?_
        · skip
          go_simp
          refine hK.out _ _ ?_ (fun hHeld => ?_)
          · (try dsimp only) <;> first | done | go_keep
          clear hK K
          try simp only [Act.put, List.setIfInBounds_toArray, List.set_cons_zero, List.set_cons_succ]
          refine wpAnyH_ready (rs := [0]) (by kernel_rfl) (by simp) ?_
          refine AllReadyH.cons rfl (fun K hK => ?_) ?_
          · skip
            go_simp
            refine hK.out _ _ ?_ (fun hHeld => ?_)
            · (try dsimp only) <;> first | done | go_keep
            clear hK K
            try simp only [Act.put, List.setIfInBounds_toArray, List.set_cons_zero, List.set_cons_succ]
            refine wpAnyH_ready (rs := [23]) (by kernel_rfl) (by simp) ?_
            refine AllReadyH.cons rfl (fun K hK => ?_) ?_
            · skip
              refine step_append_exact _ (by rfl) (.tmp 52) (.tmp 74) 29 (by rfl) 31 i31 _ 4 32 Try.underlying29 hi31 hz0 hz1 hz2 rfl (.slice (some ⟨g, 0, none⟩) k (n + 1)) k (n + 1) (flatE (A ++ ent0 :: B)) (by rfl) (own_of_row (rx.below (by repeat (first | exact Below.refl _ _ | apply Below.drew | (refine Below.alloc ?_ (by simp) _)))) (by simp [lA, lB]; omega) (by omega) (by omega)) ⟨wx.heap.size, 0, none⟩ 1 (entCells x) (by rfl) (by rfl) (World.news_of_block (cs := #[.int .i64 x.at_, .float .f64 x.co, .float .f64 x.de, .int .i64 x.ho]) (t := 31) (fr := (0, 0)) (Go.heap_alloc_new wx _)) (ent_oneCell x) (by unfold maxLen; omega) (by omega) ?_; intro gl capl' wy csl' hap; have t0 : wy.cell? ⟨bq, 0, none⟩ = some (.slice (some ⟨g, 0, none⟩) k (n + 1)) := (hap.grow.cell_far ⟨bq, 0, none⟩ (by simp; omega) (by simp [Value.ownBlock]; omega)).trans (cell_later (by repeat (first | exact Below.refl _ _ | apply Below.drew | (refine Below.alloc ?_ (by simp) _))) s0); have t1 : wy.cell? ⟨b, o + k * 4, none⟩ = _ := (hap.grow.cell_far ⟨b, o + k * 4, none⟩ (by simp; omega) (by simp [Value.ownBlock]; omega)).trans (cell_later (by repeat (first | exact Below.refl _ _ | apply Below.drew | (refine Below.alloc ?_ (by simp) _))) s1); have t2 : wy.cell? ⟨b, o + k * 4 + 1, none⟩ = _ := (hap.grow.cell_far ⟨b, o + k * 4 + 1, none⟩ (by simp; omega) (by simp [Value.ownBlock]; omega)).trans (cell_later (by repeat (first | exact Below.refl _ _ | apply Below.drew | (refine Below.alloc ?_ (by simp) _))) s2); have t3 : wy.cell? ⟨b, o + k * 4 + 2, none⟩ = _ := (hap.grow.cell_far ⟨b, o + k * 4 + 2, none⟩ (by simp; omega) (by simp [Value.ownBlock]; omega)).trans (cell_later (by repeat (first | exact Below.refl _ _ | apply Below.drew | (refine Below.alloc ?_ (by simp) _))) s3); have t4 : wy.cell? ⟨b, o + k * 4 + 3, none⟩ = _ := (hap.grow.cell_far ⟨b, o + k * 4 + 3, none⟩ (by simp; omega) (by simp [Value.ownBlock]; omega)).trans (cell_later (by repeat (first | exact Below.refl _ _ | apply Below.drew | (refine Below.alloc ?_ (by simp) _))) s4); have ty : wy.frozen? ⟨bq, 0, none⟩ = false := (hap.grow.frozen_far ⟨bq, 0, none⟩ (by simp; omega) (by simp [Value.ownBlock]; omega)).trans ((Below.frozen (p := ⟨bq, 0, none⟩) (by repeat (first | exact Below.refl _ _ | apply Below.drew | (refine Below.alloc ?_ (by simp) _))) hqx).trans fqx)
              refine hK.out _ _ ?_ (fun hHeld => ?_)
              · (try dsimp only) <;> first | done | go_keep
              clear hK K
              try simp only [Act.put, List.setIfInBounds_toArray, List.set_cons_zero, List.set_cons_succ]
              refine wpAnyH_ready (rs := [24]) (by kernel_rfl) (by simp) ?_
              refine AllReadyH.cons rfl (fun K hK => ?_) ?_
              · skip
                go_simp
                refine hK.out _ _ ?_ (fun hHeld => ?_)
                · (try dsimp only) <;> first | done | go_keep
                clear hK K
                try simp only [Act.put, List.setIfInBounds_toArray, List.set_cons_zero, List.set_cons_succ]
                refine wpAnyH_done (by kernel_rfl) ?_ _
                refine NoPanic.normal ?_
                obtain ⟨rfl, rfl, R3⟩ := row_appended lA (by omega) hap
                have Q1 : wx.heap[bq]? = some (.cells #[.slice (some ⟨gl, 0, none⟩) k (n + 1)] 29 (0, 0)) := (hb.block bq hql).trans HQ.out
                have Q2 := (Go.heap_alloc_old wx (.cells #[.int .i64 x.at_, .float .f64 x.co, .float .f64 x.de, .int .i64 x.ho] 31) hqx).trans Q1
                have Q3 := (hap.grow.block bq (by simp; omega) (by simp [Value.ownBlock]; omega)).trans Q2
                have Q4 := heap_setCell_same wy bq 0 _ 29 (.slice (some ⟨gl, 0, none⟩) (k + 1) (n + 1)) Q3
                have R4 : RowE (wy.setCell ⟨bq, 0, none⟩ (.slice (some ⟨gl, 0, none⟩) (k + 1) (n + 1))) gl 31 (h.take (k + 1) ++ List.replicate (n + 1 - (k + 1)) ent0) := by
                  have := R3.other (o := 0) (.slice (some ⟨gl, 0, none⟩) (k + 1) (n + 1)) ne
                  rw [take_next hl hlt, ← HA.out, ← HX.out, List.append_assoc, show n + 1 - (k + 1) = n - k from by omega, ← HBB.out]
                  exact this
                have hb' : Below W0.heap.size wr wx := ⟨hb.os, hb.tape, hb.output, hb.size, fun i hi => hb.block i (Nat.lt_of_lt_of_le hi hbel.size)⟩
                have B1 : Below W0.heap.size W0 wx := hbel.trans hb'
                have B2 := B1.alloc B1.size (.cells #[.int .i64 x.at_, .float .f64 x.co, .float .f64 x.de, .int .i64 x.ho] 31)
                have B3 := (But.of_grown (S := fun q => q = gl) hap.grow (fun q hq => by simp [Value.ownBlock] at hq; exact hq.symm)).below B2.size (fun q hq => by rw [hq]; exact hgg)
                have B4 := (B2.trans B3).setCell (p := ⟨bq, 0, none⟩) hbq (.slice (some ⟨gl, 0, none⟩) (k + 1) (n + 1))
                have HQ4 : Hid _ := Q4
                have HR4 : Hid _ := R4
                have HB4 : Hid _ := B4
                clear hap Q1 Q2 Q3 Q4 R3 R4 B1 B2 B3 B4 hb' rx
                go_wp2
                go_roundw
                case rel => exact ⟨k + 1, by omega, by go_num, HQ4.out, HR4.out, HB4.out⟩
                case measure => simp [intOf]; omega
              exact AllReadyH.nil
            exact AllReadyH.nil
          exact AllReadyH.nil
        exact AllReadyH.nil
      exact AllReadyH.nil
    · obtain rfl : k = n + 1 := by omega
      have HQ : Hid _ := Q
      have G1 : RowE wr g 31 h := by
        rw [List.take_of_length_le (by omega), Nat.sub_self, List.replicate_zero, List.append_nil] at G
        exact G
      have HG : Hid _ := G1
      clear Q G G1
      go_wp2
      exact f3_tail9 hbel bn bc HE.out HN.out HQ.out (Nat.le_refl _) HG.out ne hbq hgg HP.out

end Go.Proofs.Qxb6601457a
