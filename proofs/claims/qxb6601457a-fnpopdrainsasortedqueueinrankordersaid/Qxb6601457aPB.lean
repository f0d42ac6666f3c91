import Derived.Test.Qxb6601457aPA
namespace Go.Proofs.Qxb6601457a
set_option linter.unusedSimpArgs false
set_option linter.unusedVariables false
open Go.RowKit Go.Sort
attribute [local go_sem] run_store_float

theorem eg_take {l : List Ent} {n j : Nat} (h : j < n) : eg (l.take n) j = eg l j := by simp [eg, List.getElem?_take, h]
theorem Heap.take {l : List Ent} {n : Nat} (h : Heap l n) : Heap (l.take n) n := by
  intro j j1 j2
  rw [eg_take j2, eg_take (by omega)]
  exact h j j1 j2
theorem take_set_next {L C : List Ent} {k n : Nat} (hL : L.length = n) (hk : k < n) (hC : n ≤ C.length) (h : L.take k = C.take k) : (L.set k (eg C k)).take (k + 1) = C.take (k + 1) := by
  have e1 : (L.set k (eg C k))[k]? = some (eg C k) := List.getElem?_set_self (by omega)
  have e2 : C[k]? = some (eg C k) := eg_get (by omega)
  rw [List.take_add_one, List.take_add_one, e1, e2, List.take_set, h]
  congr 1
  rw [List.set_eq_of_length_le]
  rw [List.length_take]; omega

set_option maxRecDepth 100000 in
set_option maxHeartbeats 3200000 in
theorem f3_tail15 {u1 u2 u3 u6 u7 u8 u10 u11 u12 u13 u14 u15 u16 u17 u18 u19 u20 u21 u22 u23 u24 u25 u26 u27 u28 u29 u30 u31 u32 u33 u34 u35 u36 u37 u38 u39 u40 u41 u42 u43 u44 u45 u46 u47 u48 u49 u50 u51 u52 u53 u54 u55 u56 u57 u58 u59 u60 u61 u62 u63 u64 u65 u66 u67 u68 u69 u70 u71 u72 u73 u74 u75 u76 u77 u78 u79 u80 u81 u82 u83 u84 u85 u86 u87 u88 u89 u90 u91 u92 u93 u94 u95 u96 u97 u98 u99 u100 u101 u102 u103 u104 u105 u106 u107 u108 u109 u110 u111 u112 u113 u114 u115 u116 u117 u118 u119 u120 u121 u122 u123 u124 u125 u126 u127 u128 u129 u130 u131 u132 u133 u134 : Value} {W0 w : World} {n c b o : Nat} {a : Option Addr} {h : List Ent} {gl g bq cap : Nat} {L C : List Ent} (hW : Below W0.heap.size W0 w) (bn : n ≤ 32768) (bc : n + 1 ≤ c) (E : Ents W0 a (n + 1) b o h) (nh : ∀ x ∈ h, nn x) (R : RowE w gl 27 L) (hL : L.length = n) (Q : w.heap[bq]? = some (.cells #[.slice (some ⟨g, 0, none⟩) n cap] 29 (0, 0))) (hcap : n ≤ cap) (G : RowE w g 31 C) (hC : C.length = n + 1) (ne1 : gl ≠ g) (ne2 : gl ≠ bq) (hgl : W0.heap.size ≤ gl) (hb : SB (C.take n) (h.drop 1)) (hp : Heap C n) :
    Code.wp Try.prog (dropSeq 15 (Try.f3.body.getD .skip)) (bodyPost Try.prog Try.f3 fun e w' => e = .returned (.bool true) ∧ Below W0.heap.size W0 w')
      ⟨List.toArray ((.slice a (n + 1) c) :: u1 :: u2 :: u3 :: (.int .i64 n) :: (.pointer (some ⟨bq, 0, none⟩)) :: u6 :: u7 :: u8 :: (.slice (some ⟨gl, 0, none⟩) n n) :: u10 :: u11 :: u12 :: u13 :: u14 :: u15 :: u16 :: u17 :: u18 :: u19 :: u20 :: u21 :: u22 :: u23 :: u24 :: u25 :: u26 :: u27 :: u28 :: u29 :: u30 :: u31 :: u32 :: u33 :: u34 :: u35 :: u36 :: u37 :: u38 :: u39 :: u40 :: u41 :: u42 :: u43 :: u44 :: u45 :: u46 :: u47 :: u48 :: u49 :: u50 :: u51 :: u52 :: u53 :: u54 :: u55 :: u56 :: u57 :: u58 :: u59 :: u60 :: u61 :: u62 :: u63 :: u64 :: u65 :: u66 :: u67 :: u68 :: u69 :: u70 :: u71 :: u72 :: u73 :: u74 :: u75 :: u76 :: u77 :: u78 :: u79 :: u80 :: u81 :: u82 :: u83 :: u84 :: u85 :: u86 :: u87 :: u88 :: u89 :: u90 :: u91 :: u92 :: u93 :: u94 :: u95 :: u96 :: u97 :: u98 :: u99 :: u100 :: u101 :: u102 :: u103 :: u104 :: u105 :: u106 :: u107 :: u108 :: u109 :: u110 :: u111 :: u112 :: u113 :: u114 :: u115 :: u116 :: u117 :: u118 :: u119 :: u120 :: u121 :: u122 :: u123 :: u124 :: u125 :: u126 :: u127 :: u128 :: u129 :: u130 :: u131 :: u132 :: u133 :: u134 :: []), []⟩ w := by
  have HE : Hid _ := E
  have HB : Hid _ := hb
  have HNH : Hid _ := nh
  have HP : Hid _ := hp
  have HR : Hid _ := R
  have HQ : Hid _ := Q
  have HG : Hid _ := G
  clear E hb nh hp R Q G
  go_step
  refine wp_drop 15 _ (by kernel_rfl) (fun K hK => ?_)
  conv => arg 2; whnf
  go_wp2_with fail
  go_loopw [10] (fun i wr => ∃ (k : Nat) (L' : List Ent), k ≤ n ∧ i = .int .i64 k ∧ L'.length = n ∧ L'.take k = C.take k ∧ RowE wr gl 27 L' ∧ wr.heap[bq]? = some (.cells #[.slice (some ⟨g, 0, none⟩) n cap] 29 (0, 0)) ∧ RowE wr g 31 C ∧ Below W0.heap.size W0 wr) (fun i _ => n - (intOf i).toNat)
  case atStart => exact ⟨0, L, Nat.zero_le _, rfl, hL, by simp, HR.out, HQ.out, HG.out, hW⟩
  case round =>
    clear HR HQ HG hW hL
    obtain ⟨k, L', hk, rfl, hL, htk, R, Q, G, hbel⟩ := hrel
    by_cases hlt : k < n
    · have hlt' : (k : Int) < n := by omega
      have q0 : wr.cell? ⟨bq, 0, none⟩ = some (.slice (some ⟨g, 0, none⟩) n cap) := by rw [cell_of_row wr bq 0 _ _ _ Q]; rfl
      have ax := G.at (j := k) (by omega)
      obtain ⟨x, hx⟩ : ∃ x, x = eg C k := ⟨_, rfl⟩
      rw [← hx] at ax
      have x0 := ax.c0
      have x1 := ax.c1
      have x2 := ax.c2
      have x3 := ax.c3
      have HX : Hid _ := hx
      have HR : Hid _ := R
      have HQ : Hid _ := Q
      have HG : Hid _ := G
      have HT : Hid _ := htk
      clear ax hx R Q G htk
      go_wp2_with (go_at_call 13; go_must (refine (fromEntry_any _ _ _ _ _).mono ?_); rintro e wx ⟨rfl, hb⟩; have rx := RowE.below HR.out hb; have ar := rx.at (j := k) (by omega); generalize eg L' k = yy at ar; have y0 := ar.c0; have y1 := ar.c1; have y2 := ar.c2; have y3 := ar.c3; have f0 := rx.frozen (k * 4); have f1 := rx.frozen (k * 4 + 1); have f2 := rx.frozen (k * 4 + 2); have f3 := rx.frozen (k * 4 + 3); clear rx ar)
      go_roundw
      case rel =>
        refine ⟨k + 1, L'.set k x, by omega, by go_num, by rw [List.length_set]; exact hL, ?_, (RowE.below HR.out hb).set (by omega) x, ?_, (RowE.below HG.out hb).setOther _ _ ne1, Below.setEnt (hbel.trans (hb.mono hbel.size)) hgl _ _⟩
        · rw [HX.out]; exact take_set_next hL hlt (by omega) HT.out
        · have hql := (Array.getElem?_eq_some_iff.1 HQ.out).1
          exact (setEnt_heap wx _ _ (fun e => ne2 e.symm)).trans ((hb.block bq hql).trans HQ.out)
      case measure => simp [intOf]; omega
    · obtain rfl : k = n := by omega
      have hLC : L' = C.take k := by rw [← htk, List.take_of_length_le (by omega)]
      subst hLC
      have HR : Hid _ := R
      clear R Q G htk
      go_wp2
      exact f3_tail16 hbel bn bc HE.out HNH.out HR.out hL (SB.all (SB.symm HB.out) (fun x hx => HNH.out x (List.mem_of_mem_drop hx))) HB.out (Heap.take HP.out)

end Go.Proofs.Qxb6601457a
