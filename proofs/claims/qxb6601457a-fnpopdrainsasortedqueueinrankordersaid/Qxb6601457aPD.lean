import Derived.Test.Qxb6601457aPC
import Derived.Deep.RegionHeld3
namespace Go.Proofs.Qxb6601457a
set_option linter.unusedSimpArgs false
set_option linter.unusedVariables false
open Go.RowKit Go.Sort
attribute [local go_sem] run_store_float

set_option maxRecDepth 100000 in
set_option maxHeartbeats 3200000 in
theorem f3_tail10 {u1 u2 u3 u6 u8 u9 u10 u11 u12 u13 u14 u15 u16 u17 u18 u19 u20 u21 u22 u23 u24 u25 u26 u27 u28 u29 u30 u31 u32 u33 u34 u35 u36 u37 u38 u39 u40 u41 u42 u43 u44 u45 u46 u47 u48 u49 u50 u51 u52 u53 u54 u55 u56 u57 u58 u59 u60 u61 u62 u63 u64 u65 u66 u67 u68 u69 u70 u71 u72 u73 u74 u75 u76 u77 u78 u79 u80 u81 u82 u83 u84 u85 u86 u87 u88 u89 u90 u91 u92 u93 u94 u95 u96 u97 u98 u99 u100 u101 u102 u103 u104 u105 u106 u107 u108 u109 u110 u111 u112 u113 u114 u115 u116 u117 u118 u119 u120 u121 u122 u123 u124 u125 u126 u127 u128 u129 u130 u131 u132 u133 u134 : Value} {W0 w : World} {n c b o : Nat} {a : Option Addr} {h : List Ent} {g bq cap : Nat} (hW : Below W0.heap.size W0 w) (bn : n ≤ 32768) (bc : n + 1 ≤ c) (E : Ents W0 a (n + 1) b o h) (nh : ∀ x ∈ h, nn x) (Q : w.heap[bq]? = some (.cells #[.slice (some ⟨g, 0, none⟩) (n + 1) cap] 29 (0, 0))) (hcap : n + 1 ≤ cap) (G : RowE w g 31 h) (ne : bq ≠ g) (hbq : W0.heap.size ≤ bq) (hgg : W0.heap.size ≤ g) (hp : Heap h (n + 1)) :
    Code.wp Try.prog (dropSeq 10 (Try.f3.body.getD .skip)) (bodyPost Try.prog Try.f3 fun e w' => e = .returned (.bool true) ∧ Below W0.heap.size W0 w')
      ⟨List.toArray ((.slice a (n + 1) c) :: u1 :: u2 :: u3 :: (.int .i64 n) :: (.pointer (some ⟨bq, 0, none⟩)) :: u6 :: (.slice (some ⟨g, 0, none⟩) (n + 1) cap) :: u8 :: u9 :: u10 :: u11 :: u12 :: u13 :: u14 :: u15 :: u16 :: u17 :: u18 :: u19 :: u20 :: u21 :: u22 :: u23 :: u24 :: u25 :: u26 :: u27 :: u28 :: u29 :: u30 :: u31 :: u32 :: u33 :: u34 :: u35 :: u36 :: u37 :: u38 :: u39 :: u40 :: u41 :: u42 :: u43 :: u44 :: u45 :: u46 :: u47 :: u48 :: u49 :: u50 :: u51 :: u52 :: u53 :: u54 :: u55 :: u56 :: u57 :: u58 :: u59 :: u60 :: u61 :: u62 :: u63 :: u64 :: u65 :: u66 :: u67 :: u68 :: u69 :: u70 :: u71 :: u72 :: u73 :: u74 :: u75 :: u76 :: u77 :: u78 :: u79 :: u80 :: u81 :: u82 :: u83 :: u84 :: u85 :: u86 :: u87 :: u88 :: u89 :: u90 :: u91 :: u92 :: u93 :: u94 :: u95 :: u96 :: u97 :: u98 :: u99 :: u100 :: u101 :: u102 :: u103 :: u104 :: u105 :: u106 :: u107 :: u108 :: u109 :: u110 :: u111 :: u112 :: u113 :: u114 :: u115 :: u116 :: u117 :: u118 :: u119 :: u120 :: u121 :: u122 :: u123 :: u124 :: u125 :: u126 :: u127 :: u128 :: u129 :: u130 :: u131 :: u132 :: u133 :: u134 :: []), []⟩ w := by
  obtain ⟨x, hx⟩ : ∃ x, x = eg h 0 := ⟨_, rfl⟩
  have G' : RowE w g 31 (h ++ []) := by rw [List.append_nil]; exact G
  have hl := E.len
  have HE : Hid _ := E
  have HN : Hid _ := nh
  have HP : Hid _ := hp
  have HQ : Hid _ := Q
  have HG : Hid _ := G
  have HG' : Hid _ := G'
  have HX : Hid _ := hx
  clear E nh hp Q G G' hx
  go_step
  refine wp_drop 10 _ (by kernel_rfl) (fun K hK => ?_)
  conv => arg 2; whnf
  go_wp2_with (go_at_call 11; go_must (refine (zzpop_any bq g n cap h [] _ bn hcap ne HQ.out HG'.out hl HP.out HN.out).mono ?_); rintro e wx ⟨rfl, hd⟩; rw [← HX.out]; unfold ev; have HD : Hid _ := hd; clear hd)
  obtain ⟨C, r, p, q, bt⟩ := HD.out
  rw [List.append_nil] at r
  have B1 : Below wx.heap.size wx (wx.alloc (.cells #[.int .i64 x.at_, .float .f64 x.co, .float .f64 x.de, .int .i64 x.ho] 31)) := (Below.refl _ _).alloc (Nat.le_refl _) _
  have B0 : Below W0.heap.size w wx := bt.below hW.size (fun k hk => by rcases hk with rfl | rfl <;> assumption)
  have B2 : Below W0.heap.size W0 wx := hW.trans B0
  have rb : RowE (wx.alloc (.cells #[.int .i64 x.at_, .float .f64 x.co, .float .f64 x.de, .int .i64 x.ho] 31)) wx.heap.size 31 [eg h 0] := by
    rw [← HX.out]; exact Go.heap_alloc_new wx _
  have hql := (Array.getElem?_eq_some_iff.1 q).1
  exact f3_tail11 (B2.trans (B1.mono B2.size)) bn bc HE.out HN.out ((B1.block bq hql).trans q) hcap (r.below B1) p.len p.last rb p.bag p.heap

set_option maxRecDepth 100000 in
set_option maxHeartbeats 3200000 in
theorem f3_tail9 {u1 u2 u3 u6 u7 u8 u9 u10 u11 u12 u13 u14 u15 u16 u17 u18 u19 u20 u21 u22 u23 u24 u25 u26 u27 u28 u29 u30 u31 u32 u33 u34 u35 u36 u37 u38 u39 u40 u41 u42 u43 u44 u45 u46 u47 u48 u49 u50 u51 u52 u53 u54 u55 u56 u57 u58 u59 u60 u61 u62 u63 u64 u65 u66 u67 u68 u69 u70 u71 u72 u73 u74 u75 u76 u77 u78 u79 u80 u81 u82 u83 u84 u85 u86 u87 u88 u89 u90 u91 u92 u93 u94 u95 u96 u97 u98 u99 u100 u101 u102 u103 u104 u105 u106 u107 u108 u109 u110 u111 u112 u113 u114 u115 u116 u117 u118 u119 u120 u121 u122 u123 u124 u125 u126 u127 u128 u129 u130 u131 u132 u133 u134 : Value} {W0 w : World} {n c b o : Nat} {a : Option Addr} {h : List Ent} {g bq cap : Nat} (hW : Below W0.heap.size W0 w) (bn : n ≤ 32768) (bc : n + 1 ≤ c) (E : Ents W0 a (n + 1) b o h) (nh : ∀ x ∈ h, nn x) (Q : w.heap[bq]? = some (.cells #[.slice (some ⟨g, 0, none⟩) (n + 1) cap] 29 (0, 0))) (hcap : n + 1 ≤ cap) (G : RowE w g 31 h) (ne : bq ≠ g) (hbq : W0.heap.size ≤ bq) (hgg : W0.heap.size ≤ g) (hp : Heap h (n + 1)) :
    Code.wp Try.prog (dropSeq 9 (Try.f3.body.getD .skip)) (bodyPost Try.prog Try.f3 fun e w' => e = .returned (.bool true) ∧ Below W0.heap.size W0 w')
      ⟨List.toArray ((.slice a (n + 1) c) :: u1 :: u2 :: u3 :: (.int .i64 n) :: (.pointer (some ⟨bq, 0, none⟩)) :: u6 :: u7 :: u8 :: u9 :: u10 :: u11 :: u12 :: u13 :: u14 :: u15 :: u16 :: u17 :: u18 :: u19 :: u20 :: u21 :: u22 :: u23 :: u24 :: u25 :: u26 :: u27 :: u28 :: u29 :: u30 :: u31 :: u32 :: u33 :: u34 :: u35 :: u36 :: u37 :: u38 :: u39 :: u40 :: u41 :: u42 :: u43 :: u44 :: u45 :: u46 :: u47 :: u48 :: u49 :: u50 :: u51 :: u52 :: u53 :: u54 :: u55 :: u56 :: u57 :: u58 :: u59 :: u60 :: u61 :: u62 :: u63 :: u64 :: u65 :: u66 :: u67 :: u68 :: u69 :: u70 :: u71 :: u72 :: u73 :: u74 :: u75 :: u76 :: u77 :: u78 :: u79 :: u80 :: u81 :: u82 :: u83 :: u84 :: u85 :: u86 :: u87 :: u88 :: u89 :: u90 :: u91 :: u92 :: u93 :: u94 :: u95 :: u96 :: u97 :: u98 :: u99 :: u100 :: u101 :: u102 :: u103 :: u104 :: u105 :: u106 :: u107 :: u108 :: u109 :: u110 :: u111 :: u112 :: u113 :: u114 :: u115 :: u116 :: u117 :: u118 :: u119 :: u120 :: u121 :: u122 :: u123 :: u124 :: u125 :: u126 :: u127 :: u128 :: u129 :: u130 :: u131 :: u132 :: u133 :: u134 :: []), []⟩ w := by
  have q0 : w.cell? ⟨bq, 0, none⟩ = some (.slice (some ⟨g, 0, none⟩) (n + 1) cap) := by rw [cell_of_row w bq 0 _ _ _ Q]; rfl
  have HE : Hid _ := E
  have HN : Hid _ := nh
  have HP : Hid _ := hp
  have HQ : Hid _ := Q
  have HG : Hid _ := G
  clear E nh hp Q G
  go_step
  refine wp_drop 9 _ (by kernel_rfl) (fun K hK => ?_)
  conv => arg 2; whnf
  go_wp2_with fail
  exact f3_tail10 hW bn bc HE.out HN.out HQ.out hcap HG.out ne hbq hgg HP.out

end Go.Proofs.Qxb6601457a
