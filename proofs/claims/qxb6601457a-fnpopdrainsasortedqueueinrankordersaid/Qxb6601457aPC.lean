import Derived.Test.Qxb6601457aPB
namespace Go.Proofs.Qxb6601457a
set_option linter.unusedSimpArgs false
set_option linter.unusedVariables false
open Go.RowKit Go.Sort
attribute [local go_sem] run_store_float

set_option maxRecDepth 100000 in
set_option maxHeartbeats 3200000 in
theorem f3_tail14 {u1 u2 u3 u6 u7 u8 u9 u10 u11 u12 u13 u14 u15 u16 u17 u18 u19 u20 u21 u22 u23 u24 u25 u26 u27 u28 u29 u30 u31 u32 u33 u34 u35 u36 u37 u38 u39 u40 u41 u42 u43 u44 u45 u46 u47 u48 u49 u50 u51 u52 u53 u54 u55 u56 u57 u58 u59 u60 u61 u62 u63 u64 u65 u66 u67 u68 u69 u70 u71 u72 u73 u74 u75 u76 u77 u78 u79 u80 u81 u82 u83 u84 u85 u86 u87 u88 u89 u90 u91 u92 u93 u94 u95 u96 u97 u98 u99 u100 u101 u102 u103 u104 u105 u106 u107 u108 u109 u110 u111 u112 u113 u114 u115 u116 u117 u118 u119 u120 u121 u122 u123 u124 u125 u126 u127 u128 u129 u130 u131 u132 u133 u134 : Value} {W0 w : World} {n c b o : Nat} {a : Option Addr} {h : List Ent} {g bq cap : Nat} {C : List Ent} (hW : Below W0.heap.size W0 w) (bn : n ≤ 32768) (bc : n + 1 ≤ c) (E : Ents W0 a (n + 1) b o h) (nh : ∀ x ∈ h, nn x) (Q : w.heap[bq]? = some (.cells #[.slice (some ⟨g, 0, none⟩) n cap] 29 (0, 0))) (hcap : n + 1 ≤ cap) (G : RowE w g 31 C) (hC : C.length = n + 1) (hb : SB (C.take n) (h.drop 1)) (hp : Heap C n) :
    Code.wp Try.prog (dropSeq 14 (Try.f3.body.getD .skip)) (bodyPost Try.prog Try.f3 fun e w' => e = .returned (.bool true) ∧ Below W0.heap.size W0 w')
      ⟨List.toArray ((.slice a (n + 1) c) :: u1 :: u2 :: u3 :: (.int .i64 n) :: (.pointer (some ⟨bq, 0, none⟩)) :: u6 :: u7 :: u8 :: u9 :: u10 :: u11 :: u12 :: u13 :: u14 :: u15 :: u16 :: u17 :: u18 :: u19 :: u20 :: u21 :: u22 :: u23 :: u24 :: u25 :: u26 :: u27 :: u28 :: u29 :: u30 :: u31 :: u32 :: u33 :: u34 :: u35 :: u36 :: u37 :: u38 :: u39 :: u40 :: u41 :: u42 :: u43 :: u44 :: u45 :: u46 :: u47 :: u48 :: u49 :: u50 :: u51 :: u52 :: u53 :: u54 :: u55 :: u56 :: u57 :: u58 :: u59 :: u60 :: u61 :: u62 :: u63 :: u64 :: u65 :: u66 :: u67 :: u68 :: u69 :: u70 :: u71 :: u72 :: u73 :: u74 :: u75 :: u76 :: u77 :: u78 :: u79 :: u80 :: u81 :: u82 :: u83 :: u84 :: u85 :: u86 :: u87 :: u88 :: u89 :: u90 :: u91 :: u92 :: u93 :: u94 :: u95 :: u96 :: u97 :: u98 :: u99 :: u100 :: u101 :: u102 :: u103 :: u104 :: u105 :: u106 :: u107 :: u108 :: u109 :: u110 :: u111 :: u112 :: u113 :: u114 :: u115 :: u116 :: u117 :: u118 :: u119 :: u120 :: u121 :: u122 :: u123 :: u124 :: u125 :: u126 :: u127 :: u128 :: u129 :: u130 :: u131 :: u132 :: u133 :: u134 :: []), []⟩ w := by
  obtain ⟨i27, hi27, hz0, hz1, hz2⟩ := info_parts Try.info27
  have r1 := RowE.made w 27 n
  have B1 : Below w.heap.size w (w.alloc (.cells (madeCells #[.int .i64 0, .float .f64 0, .float .f64 0, .int .i64 0] (n * 4)) 27)) := (Below.refl _ _).alloc (Nat.le_refl _) _
  have hql := (Array.getElem?_eq_some_iff.1 Q).1
  have hgl := G.lt
  have HR : Hid _ := r1
  have HB1 : Hid _ := B1
  have HQ : Hid _ := (B1.block bq hql).trans Q
  have HG : Hid _ := G.below B1
  have HE : Hid _ := E
  have HN : Hid _ := nh
  have HB : Hid _ := hb
  have HP : Hid _ := hp
  clear E nh Q G hb hp r1 B1
  go_step
  refine wp_drop 14 _ (by kernel_rfl) (fun K hK => ?_)
  conv => arg 2; whnf
  go_wp2_with (at_make; go_must (refine wpList_make_exact _ rfl _ _ 22 rfl 27 i27 (.agg #[.int .i64 0, .float .f64 0, .float .f64 0, .int .i64 0]) 4 Try.underlying22 hi27 hz0 hz1 .i64 .i64 _ _ n n rfl rfl rfl rfl (Nat.le_refl _) (by rw [hz2]; omega) (by unfold maxLen; omega) ?_))
  exact f3_tail15 (hW.trans (HB1.out.mono hW.size)) bn bc HE.out HN.out HR.out (by simp) HQ.out (by omega) HG.out hC (by omega) (by omega) hW.size HB.out HP.out

theorem same_refl {x : Ent} (hx : nn x) : sameE x x = true := (same_iff hx hx).2 rfl

set_option maxRecDepth 100000 in
set_option maxHeartbeats 3200000 in
theorem f3_tail13 {u1 u2 u3 u6 u8 u9 u10 u11 u12 u13 u14 u15 u16 u17 u18 u19 u20 u21 u22 u23 u24 u25 u26 u27 u28 u29 u30 u31 u32 u33 u34 u35 u36 u37 u38 u39 u40 u41 u42 u43 u44 u45 u46 u47 u48 u49 u50 u51 u52 u53 u54 u55 u56 u57 u58 u59 u60 u61 u62 u63 u64 u65 u66 u67 u68 u69 u70 u71 u72 u73 u74 u75 u76 u77 u78 u79 u80 u81 u82 u83 u84 u85 u86 u87 u88 u89 u90 u91 u92 u93 u94 u95 u96 u97 u98 u99 u100 u101 u102 u103 u104 u105 u106 u107 u108 u109 u110 u111 u112 u113 u114 u115 u116 u117 u118 u119 u120 u121 u122 u123 u124 u125 u126 u127 u128 u129 u130 u131 u132 u133 u134 : Value} {W0 w : World} {n c b o : Nat} {a : Option Addr} {h : List Ent} {g bq cap : Nat} {C : List Ent} (hW : Below W0.heap.size W0 w) (bn : n ≤ 32768) (bc : n + 1 ≤ c) (E : Ents W0 a (n + 1) b o h) (nh : ∀ x ∈ h, nn x) (Q : w.heap[bq]? = some (.cells #[.slice (some ⟨g, 0, none⟩) n cap] 29 (0, 0))) (hcap : n + 1 ≤ cap) (G : RowE w g 31 C) (hC : C.length = n + 1) (hlast : eg C n = eg h n) (hb : SB (C.take n) (h.drop 1)) (hp : Heap C n) :
    Code.wp Try.prog (dropSeq 13 (Try.f3.body.getD .skip)) (bodyPost Try.prog Try.f3 fun e w' => e = .returned (.bool true) ∧ Below W0.heap.size W0 w')
      ⟨List.toArray ((.slice a (n + 1) c) :: u1 :: u2 :: u3 :: (.int .i64 n) :: (.pointer (some ⟨bq, 0, none⟩)) :: u6 :: (.slice (some ⟨g, 0, none⟩) (n + 1) cap) :: u8 :: u9 :: u10 :: u11 :: u12 :: u13 :: u14 :: u15 :: u16 :: u17 :: u18 :: u19 :: u20 :: u21 :: u22 :: u23 :: u24 :: u25 :: u26 :: u27 :: u28 :: u29 :: u30 :: u31 :: u32 :: u33 :: u34 :: u35 :: u36 :: u37 :: u38 :: u39 :: u40 :: u41 :: u42 :: u43 :: u44 :: u45 :: u46 :: u47 :: u48 :: u49 :: u50 :: u51 :: u52 :: u53 :: u54 :: u55 :: u56 :: u57 :: u58 :: u59 :: u60 :: u61 :: u62 :: u63 :: u64 :: u65 :: u66 :: u67 :: u68 :: u69 :: u70 :: u71 :: u72 :: u73 :: u74 :: u75 :: u76 :: u77 :: u78 :: u79 :: u80 :: u81 :: u82 :: u83 :: u84 :: u85 :: u86 :: u87 :: u88 :: u89 :: u90 :: u91 :: u92 :: u93 :: u94 :: u95 :: u96 :: u97 :: u98 :: u99 :: u100 :: u101 :: u102 :: u103 :: u104 :: u105 :: u106 :: u107 :: u108 :: u109 :: u110 :: u111 :: u112 :: u113 :: u114 :: u115 :: u116 :: u117 :: u118 :: u119 :: u120 :: u121 :: u122 :: u123 :: u124 :: u125 :: u126 :: u127 :: u128 :: u129 :: u130 :: u131 :: u132 :: u133 :: u134 :: []), []⟩ w := by
  obtain ⟨x, hx⟩ : ∃ x, x = eg h n := ⟨_, rfl⟩
  have hz : sameE x x = true := same_refl (by rw [hx]; exact nh _ (List.mem_of_getElem? (eg_get (by have := E.len; omega))))
  have ax := G.at (j := n) (by omega)
  rw [hlast, ← hx] at ax
  have ay := (E.below hW).cell n (by omega)
  rw [← hx] at ay
  obtain rfl := E.ad (by omega)
  have HE : Hid _ := E
  have HN : Hid _ := nh
  have HB : Hid _ := hb
  have HP : Hid _ := hp
  have HQ : Hid _ := Q
  have HG : Hid _ := G
  have HZ : Hid _ := hz
  have x0 : ∀ d os, (grow (redrawn w d) os).cell? ⟨g, n * 4, none⟩ = some (.int .i64 x.at_) := fun d os => (ax.regrown d os).c0
  have x1 : ∀ d os, (grow (redrawn w d) os).cell? ⟨g, n * 4 + 1, none⟩ = some (.float .f64 x.co) := fun d os => (ax.regrown d os).c1
  have x2 : ∀ d os, (grow (redrawn w d) os).cell? ⟨g, n * 4 + 2, none⟩ = some (.float .f64 x.de) := fun d os => (ax.regrown d os).c2
  have x3 : ∀ d os, (grow (redrawn w d) os).cell? ⟨g, n * 4 + 3, none⟩ = some (.int .i64 x.ho) := fun d os => (ax.regrown d os).c3
  have y0 : ∀ d os, (grow (redrawn w d) os).cell? ⟨b, o + n * 4, none⟩ = some (.int .i64 x.at_) := fun d os => (ay.regrown d os).c0
  have y1 : ∀ d os, (grow (redrawn w d) os).cell? ⟨b, o + n * 4 + 1, none⟩ = some (.float .f64 x.co) := fun d os => (ay.regrown d os).c1
  have y2 : ∀ d os, (grow (redrawn w d) os).cell? ⟨b, o + n * 4 + 2, none⟩ = some (.float .f64 x.de) := fun d os => (ay.regrown d os).c2
  have y3 : ∀ d os, (grow (redrawn w d) os).cell? ⟨b, o + n * 4 + 3, none⟩ = some (.int .i64 x.ho) := fun d os => (ay.regrown d os).c3
  clear E nh hb hp Q G hx hz ax ay hlast
  go_step
  refine wp_drop 13 _ (by kernel_rfl) (fun K hK => ?_)
  conv => arg 2; whnf
  go_wp2_with fail
  refine wp_region_quiet_below (by kernel_rfl) (by kernel_rfl) ?_
  repeat (first | go_big_quiet_step ((first | (go_at_call 13; exact Calls.regrown_of (fromEntry_any _ _ _ _ _)) | (go_at_call 12; exact Calls.regrown_of (same_eq HZ.out _)))) | quiet_step ((first | (go_at_call 13; exact Calls.regrown_of (fromEntry_any _ _ _ _ _)) | (go_at_call 12; exact Calls.regrown_of (same_eq HZ.out _)))))
  refine wpQuiet_nil ?_
  intro _ hw'
  obtain ⟨⟨dq, osq⟩, hw''⟩ := hw'
  subst hw''
  have hbwq := below_regrown w dq osq
  generalize grow (redrawn w dq) osq = wq at *
  clear x0 x1 x2 x3 y0 y1 y2 y3
  go_wp2_with fail
  have hql := (Array.getElem?_eq_some_iff.1 HQ.out).1
  exact f3_tail14 (hW.trans (hbwq.mono hW.size)) bn bc HE.out HN.out ((hbwq.block bq hql).trans HQ.out) hcap (RowE.below HG.out hbwq) hC HB.out HP.out

set_option maxRecDepth 100000 in
set_option maxHeartbeats 3200000 in
theorem f3_tail12 {u1 u2 u3 u6 u8 u9 u10 u11 u12 u13 u14 u15 u16 u17 u18 u19 u20 u21 u22 u23 u24 u25 u26 u27 u28 u29 u30 u31 u32 u33 u34 u35 u36 u37 u38 u39 u40 u41 u42 u43 u44 u45 u46 u47 u48 u49 u50 u51 u52 u53 u54 u55 u56 u57 u58 u59 u60 u61 u62 u63 u64 u65 u66 u67 u68 u69 u70 u71 u72 u73 u74 u75 u76 u77 u78 u79 u80 u81 u82 u83 u84 u85 u86 u87 u88 u89 u90 u91 u92 u93 u94 u95 u96 u97 u98 u99 u100 u101 u102 u103 u104 u105 u106 u107 u108 u109 u110 u111 u112 u113 u114 u115 u116 u117 u118 u119 u120 u121 u122 u123 u124 u125 u126 u127 u128 u129 u130 u131 u132 u133 u134 : Value} {W0 w : World} {n c b o : Nat} {a : Option Addr} {h : List Ent} {g bq cap : Nat} {C : List Ent} (hW : Below W0.heap.size W0 w) (bn : n ≤ 32768) (bc : n + 1 ≤ c) (E : Ents W0 a (n + 1) b o h) (nh : ∀ x ∈ h, nn x) (Q : w.heap[bq]? = some (.cells #[.slice (some ⟨g, 0, none⟩) n cap] 29 (0, 0))) (hcap : n + 1 ≤ cap) (G : RowE w g 31 C) (hC : C.length = n + 1) (hlast : eg C n = eg h n) (hb : SB (C.take n) (h.drop 1)) (hp : Heap C n) :
    Code.wp Try.prog (dropSeq 12 (Try.f3.body.getD .skip)) (bodyPost Try.prog Try.f3 fun e w' => e = .returned (.bool true) ∧ Below W0.heap.size W0 w')
      ⟨List.toArray ((.slice a (n + 1) c) :: u1 :: u2 :: u3 :: (.int .i64 n) :: (.pointer (some ⟨bq, 0, none⟩)) :: u6 :: (.slice (some ⟨g, 0, none⟩) (n + 1) cap) :: u8 :: u9 :: u10 :: u11 :: u12 :: u13 :: u14 :: u15 :: u16 :: u17 :: u18 :: u19 :: u20 :: u21 :: u22 :: u23 :: u24 :: u25 :: u26 :: u27 :: u28 :: u29 :: u30 :: u31 :: u32 :: u33 :: u34 :: u35 :: u36 :: u37 :: u38 :: u39 :: u40 :: u41 :: u42 :: u43 :: u44 :: u45 :: u46 :: u47 :: u48 :: u49 :: u50 :: u51 :: u52 :: u53 :: u54 :: u55 :: u56 :: u57 :: u58 :: u59 :: u60 :: u61 :: u62 :: u63 :: u64 :: u65 :: u66 :: u67 :: u68 :: u69 :: u70 :: u71 :: u72 :: u73 :: u74 :: u75 :: u76 :: u77 :: u78 :: u79 :: u80 :: u81 :: u82 :: u83 :: u84 :: u85 :: u86 :: u87 :: u88 :: u89 :: u90 :: u91 :: u92 :: u93 :: u94 :: u95 :: u96 :: u97 :: u98 :: u99 :: u100 :: u101 :: u102 :: u103 :: u104 :: u105 :: u106 :: u107 :: u108 :: u109 :: u110 :: u111 :: u112 :: u113 :: u114 :: u115 :: u116 :: u117 :: u118 :: u119 :: u120 :: u121 :: u122 :: u123 :: u124 :: u125 :: u126 :: u127 :: u128 :: u129 :: u130 :: u131 :: u132 :: u133 :: u134 :: []), []⟩ w := by
  have q0 : w.cell? ⟨bq, 0, none⟩ = some (.slice (some ⟨g, 0, none⟩) n cap) := by rw [cell_of_row w bq 0 _ _ _ Q]; rfl
  have HE : Hid _ := E
  have HN : Hid _ := nh
  have HB : Hid _ := hb
  have HP : Hid _ := hp
  have HQ : Hid _ := Q
  have HG : Hid _ := G
  have HL : Hid _ := hlast
  clear E nh hb hp Q G hlast
  go_step
  refine wp_drop 12 _ (by kernel_rfl) (fun K hK => ?_)
  conv => arg 2; whnf
  go_wp2_with fail
  exact f3_tail13 hW bn bc HE.out HN.out HQ.out hcap HG.out hC HL.out HB.out HP.out

set_option maxRecDepth 100000 in
set_option maxHeartbeats 3200000 in
theorem f3_tail11 {u1 u2 u3 u6 u9 u10 u11 u12 u13 u14 u15 u16 u17 u18 u19 u20 u21 u22 u23 u24 u25 u26 u27 u28 u29 u30 u31 u32 u33 u34 u35 u36 u37 u38 u39 u40 u41 u42 u43 u44 u45 u46 u47 u48 u49 u50 u51 u52 u53 u54 u55 u56 u57 u58 u59 u60 u61 u62 u63 u64 u65 u66 u67 u68 u69 u70 u71 u72 u73 u74 u75 u76 u77 u78 u79 u80 u81 u82 u83 u84 u85 u86 u87 u88 u89 u90 u91 u92 u93 u94 u95 u96 u97 u98 u99 u100 u101 u102 u103 u104 u105 u106 u107 u108 u109 u110 u111 u112 u113 u114 u115 u116 u117 u118 u119 u120 u121 u122 u123 u124 u125 u126 u127 u128 u129 u130 u131 u132 u133 u134 : Value} {W0 w : World} {n c b o : Nat} {a : Option Addr} {h : List Ent} {g bq bb cap : Nat} {C : List Ent} (hW : Below W0.heap.size W0 w) (bn : n ≤ 32768) (bc : n + 1 ≤ c) (E : Ents W0 a (n + 1) b o h) (nh : ∀ x ∈ h, nn x) (Q : w.heap[bq]? = some (.cells #[.slice (some ⟨g, 0, none⟩) n cap] 29 (0, 0))) (hcap : n + 1 ≤ cap) (G : RowE w g 31 C) (hC : C.length = n + 1) (hlast : eg C n = eg h n) (RB : RowE w bb 31 [eg h 0]) (hb : SB (C.take n) (h.drop 1)) (hp : Heap C n) :
    Code.wp Try.prog (dropSeq 11 (Try.f3.body.getD .skip)) (bodyPost Try.prog Try.f3 fun e w' => e = .returned (.bool true) ∧ Below W0.heap.size W0 w')
      ⟨List.toArray ((.slice a (n + 1) c) :: u1 :: u2 :: u3 :: (.int .i64 n) :: (.pointer (some ⟨bq, 0, none⟩)) :: u6 :: (.slice (some ⟨g, 0, none⟩) (n + 1) cap) :: (.pointer (some ⟨bb, 0, none⟩)) :: u9 :: u10 :: u11 :: u12 :: u13 :: u14 :: u15 :: u16 :: u17 :: u18 :: u19 :: u20 :: u21 :: u22 :: u23 :: u24 :: u25 :: u26 :: u27 :: u28 :: u29 :: u30 :: u31 :: u32 :: u33 :: u34 :: u35 :: u36 :: u37 :: u38 :: u39 :: u40 :: u41 :: u42 :: u43 :: u44 :: u45 :: u46 :: u47 :: u48 :: u49 :: u50 :: u51 :: u52 :: u53 :: u54 :: u55 :: u56 :: u57 :: u58 :: u59 :: u60 :: u61 :: u62 :: u63 :: u64 :: u65 :: u66 :: u67 :: u68 :: u69 :: u70 :: u71 :: u72 :: u73 :: u74 :: u75 :: u76 :: u77 :: u78 :: u79 :: u80 :: u81 :: u82 :: u83 :: u84 :: u85 :: u86 :: u87 :: u88 :: u89 :: u90 :: u91 :: u92 :: u93 :: u94 :: u95 :: u96 :: u97 :: u98 :: u99 :: u100 :: u101 :: u102 :: u103 :: u104 :: u105 :: u106 :: u107 :: u108 :: u109 :: u110 :: u111 :: u112 :: u113 :: u114 :: u115 :: u116 :: u117 :: u118 :: u119 :: u120 :: u121 :: u122 :: u123 :: u124 :: u125 :: u126 :: u127 :: u128 :: u129 :: u130 :: u131 :: u132 :: u133 :: u134 :: []), []⟩ w := by
  obtain ⟨x, hx⟩ : ∃ x, x = eg h 0 := ⟨_, rfl⟩
  have hz : sameE x x = true := same_refl (by rw [hx]; exact nh _ (List.mem_of_getElem? (eg_get (by have := E.len; omega))))
  have ax := RB.at (j := 0) (by simp)
  rw [show eg [eg h 0] 0 = eg h 0 from rfl, ← hx, Nat.zero_mul] at ax
  have ay := (E.below hW).cell 0 (by omega)
  rw [← hx, Nat.zero_mul, Nat.add_zero] at ay
  obtain rfl := E.ad (by omega)
  have HE : Hid _ := E
  have HN : Hid _ := nh
  have HB : Hid _ := hb
  have HP : Hid _ := hp
  have HQ : Hid _ := Q
  have HG : Hid _ := G
  have HZ : Hid _ := hz
  have HL : Hid _ := hlast
  have x0 : ∀ d os, (grow (redrawn w d) os).cell? ⟨bb, 0, none⟩ = some (.int .i64 x.at_) := fun d os => (ax.regrown d os).c0
  have x1 : ∀ d os, (grow (redrawn w d) os).cell? ⟨bb, 1, none⟩ = some (.float .f64 x.co) := fun d os => by simpa using (ax.regrown d os).c1
  have x2 : ∀ d os, (grow (redrawn w d) os).cell? ⟨bb, 2, none⟩ = some (.float .f64 x.de) := fun d os => by simpa using (ax.regrown d os).c2
  have x3 : ∀ d os, (grow (redrawn w d) os).cell? ⟨bb, 3, none⟩ = some (.int .i64 x.ho) := fun d os => by simpa using (ax.regrown d os).c3
  have y0 : ∀ d os, (grow (redrawn w d) os).cell? ⟨b, o, none⟩ = some (.int .i64 x.at_) := fun d os => (ay.regrown d os).c0
  have y1 : ∀ d os, (grow (redrawn w d) os).cell? ⟨b, o + 1, none⟩ = some (.float .f64 x.co) := fun d os => (ay.regrown d os).c1
  have y2 : ∀ d os, (grow (redrawn w d) os).cell? ⟨b, o + 2, none⟩ = some (.float .f64 x.de) := fun d os => (ay.regrown d os).c2
  have y3 : ∀ d os, (grow (redrawn w d) os).cell? ⟨b, o + 3, none⟩ = some (.int .i64 x.ho) := fun d os => (ay.regrown d os).c3
  clear E nh hb hp Q G hx hz ax ay hlast RB
  go_step
  refine wp_drop 11 _ (by kernel_rfl) (fun K hK => ?_)
  conv => arg 2; whnf
  go_wp2_with fail
  refine wp_region_quiet_below (by kernel_rfl) (by kernel_rfl) ?_
  repeat (first | go_big_quiet_step ((first | (go_at_call 13; exact Calls.regrown_of (fromEntry_any _ _ _ _ _)) | (go_at_call 12; exact Calls.regrown_of (same_eq HZ.out _)))) | quiet_step ((first | (go_at_call 13; exact Calls.regrown_of (fromEntry_any _ _ _ _ _)) | (go_at_call 12; exact Calls.regrown_of (same_eq HZ.out _)))))
  refine wpQuiet_nil ?_
  intro _ hw'
  obtain ⟨⟨dq, osq⟩, hw''⟩ := hw'
  subst hw''
  have hbwq := below_regrown w dq osq
  generalize grow (redrawn w dq) osq = wq at *
  clear x0 x1 x2 x3 y0 y1 y2 y3
  go_wp2_with fail
  have hql := (Array.getElem?_eq_some_iff.1 HQ.out).1
  exact f3_tail12 (hW.trans (hbwq.mono hW.size)) bn bc HE.out HN.out ((hbwq.block bq hql).trans HQ.out) hcap (RowE.below HG.out hbwq) hC HL.out HB.out HP.out

end Go.Proofs.Qxb6601457a
