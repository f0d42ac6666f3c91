import Derived.Test.Qxb6601457aPopMain
namespace Go.Proofs.Qxb6601457a
set_option linter.unusedSimpArgs false
set_option linter.unusedVariables false
open Go.RowKit Go.Sort
attribute [local go_sem] run_store_float

theorem eg_drop1 (h : List Ent) (j : Nat) : eg (h.drop 1) j = eg h (j + 1) := by simp [eg, Nat.add_comm]

theorem Ents.tail1 {w : World} {a : Option Addr} {n b o : Nat} {h : List Ent} (E : Ents w a (n + 1) b o h) (a' : Option Addr) (ha : 0 < n → a' = some ⟨b, o + 4, none⟩) : Ents w a' n b (o + 4) (h.drop 1) :=
  ⟨by rw [List.length_drop, E.len]; omega, ha, fun j hj => by
    have := E.cell (j + 1) (by omega)
    rw [eg_drop1, show o + 4 + j * 4 = o + (j + 1) * 4 from by omega]
    exact this⟩

set_option maxRecDepth 100000 in
set_option maxHeartbeats 3200000 in
theorem f3_tail17 {u1 u2 u3 u4 u5 u6 u7 u8 u10 u11 u12 u13 u14 u15 u16 u17 u18 u19 u20 u21 u22 u23 u24 u25 u26 u27 u28 u29 u30 u31 u32 u33 u34 u35 u36 u37 u38 u39 u40 u41 u42 u43 u44 u45 u46 u47 u48 u49 u50 u51 u52 u53 u54 u55 u56 u57 u58 u59 u60 u61 u62 u63 u64 u65 u66 u67 u68 u69 u70 u71 u72 u73 u74 u75 u76 u77 u78 u79 u80 u81 u82 u83 u84 u85 u86 u87 u88 u89 u90 u91 u92 u93 u94 u95 u96 u97 u98 u99 u100 u101 u102 u103 u104 u105 u106 u107 u108 u109 u110 u111 u112 u113 u114 u115 u116 u117 u118 u119 u120 u121 u122 u123 u124 u125 u126 u127 u128 u129 u130 u131 u132 u133 u134 : Value} {W0 w : World} {n c b o : Nat} {a : Option Addr} {h : List Ent} {gl : Nat} {m : List Ent} (hW : Below W0.heap.size W0 w) (bn : n ≤ 32768) (bc : n + 1 ≤ c) (E : Ents W0 a (n + 1) b o h) (nh : ∀ x ∈ h, nn x) (R : RowE w gl 27 m) (hm : m.length = n) (nm : ∀ x ∈ m, nn x) (hb : SB m (h.drop 1)) :
    Code.wp Try.prog (dropSeq 17 (Try.f3.body.getD .skip)) (bodyPost Try.prog Try.f3 fun e w' => e = .returned (.bool true) ∧ Below W0.heap.size W0 w')
      ⟨List.toArray ((.slice a (n + 1) c) :: u1 :: u2 :: u3 :: u4 :: u5 :: u6 :: u7 :: u8 :: (.slice (some ⟨gl, 0, none⟩) n n) :: u10 :: u11 :: u12 :: u13 :: u14 :: u15 :: u16 :: u17 :: u18 :: u19 :: u20 :: u21 :: u22 :: u23 :: u24 :: u25 :: u26 :: u27 :: u28 :: u29 :: u30 :: u31 :: u32 :: u33 :: u34 :: u35 :: u36 :: u37 :: u38 :: u39 :: u40 :: u41 :: u42 :: u43 :: u44 :: u45 :: u46 :: u47 :: u48 :: u49 :: u50 :: u51 :: u52 :: u53 :: u54 :: u55 :: u56 :: u57 :: u58 :: u59 :: u60 :: u61 :: u62 :: u63 :: u64 :: u65 :: u66 :: u67 :: u68 :: u69 :: u70 :: u71 :: u72 :: u73 :: u74 :: u75 :: u76 :: u77 :: u78 :: u79 :: u80 :: u81 :: u82 :: u83 :: u84 :: u85 :: u86 :: u87 :: u88 :: u89 :: u90 :: u91 :: u92 :: u93 :: u94 :: u95 :: u96 :: u97 :: u98 :: u99 :: u100 :: u101 :: u102 :: u103 :: u104 :: u105 :: u106 :: u107 :: u108 :: u109 :: u110 :: u111 :: u112 :: u113 :: u114 :: u115 :: u116 :: u117 :: u118 :: u119 :: u120 :: u121 :: u122 :: u123 :: u124 :: u125 :: u126 :: u127 :: u128 :: u129 :: u130 :: u131 :: u132 :: u133 :: u134 :: []), []⟩ w := by
  obtain rfl := E.ad (by omega)
  have E1 := E.below hW
  have HE : Hid _ := E1
  have HM : Ents w (some ⟨gl, 0, none⟩) n gl 0 m := by
    have := R.ents (n := n) (by omega)
    rw [List.take_of_length_le (by omega)] at this
    exact this
  have HM' : Hid _ := HM
  have nd : ∀ x ∈ h.drop 1, nn x := fun x hx => nh x (List.mem_of_mem_drop hx)
  have HB : Hid _ := hb
  have HN : Hid _ := nm
  have HD : Hid _ := nd
  clear E E1 nh nd nm hb R HM
  conv => arg 2; whnf
  go_wp2_with (go_at_call 14; go_must (refine (multiset_any _ _ n _ _ gl 0 b (o + 4) m (h.drop 1) _ bn HM'.out (Ents.tail1 HE.out _ ?ad) HN.out HD.out HB.out).mono ?_); rotate_left; rintro e wx ⟨rfl, hbx⟩)
  all_goals first | (go_ret; exact ⟨rfl, hW.trans (hbx.mono hW.size)⟩) | omega | (intro hn0; first | rfl | (exfalso; omega))

theorem rankLess_eq {x y : Ent} {z : Bool} (h : rl x y = z) (w : World) :
    Calls Try.prog 9 #[.agg #[.int .i64 x.at_, .float .f64 x.co, .float .f64 x.de, .int .i64 x.ho], .agg #[.int .i64 y.at_, .float .f64 y.co, .float .f64 y.de, .int .i64 y.ho]] w fun e w' => e = .returned (.bool z) ∧ Below w.heap.size w w' := by
  subst h
  exact rankLess_any _ _ _ _ _ _ _ _ w

set_option maxRecDepth 100000 in
set_option maxHeartbeats 3200000 in
theorem f3_tail16 {u1 u2 u3 u5 u6 u7 u8 u10 u11 u12 u13 u14 u15 u16 u17 u18 u19 u20 u21 u22 u23 u24 u25 u26 u27 u28 u29 u30 u31 u32 u33 u34 u35 u36 u37 u38 u39 u40 u41 u42 u43 u44 u45 u46 u47 u48 u49 u50 u51 u52 u53 u54 u55 u56 u57 u58 u59 u60 u61 u62 u63 u64 u65 u66 u67 u68 u69 u70 u71 u72 u73 u74 u75 u76 u77 u78 u79 u80 u81 u82 u83 u84 u85 u86 u87 u88 u89 u90 u91 u92 u93 u94 u95 u96 u97 u98 u99 u100 u101 u102 u103 u104 u105 u106 u107 u108 u109 u110 u111 u112 u113 u114 u115 u116 u117 u118 u119 u120 u121 u122 u123 u124 u125 u126 u127 u128 u129 u130 u131 u132 u133 u134 : Value} {W0 w : World} {n c b o : Nat} {a : Option Addr} {h : List Ent} {gl : Nat} {m : List Ent} (hW : Below W0.heap.size W0 w) (bn : n ≤ 32768) (bc : n + 1 ≤ c) (E : Ents W0 a (n + 1) b o h) (nh : ∀ x ∈ h, nn x) (R : RowE w gl 27 m) (hm : m.length = n) (nm : ∀ x ∈ m, nn x) (hb : SB m (h.drop 1)) (hp : Heap m n) :
    Code.wp Try.prog (dropSeq 16 (Try.f3.body.getD .skip)) (bodyPost Try.prog Try.f3 fun e w' => e = .returned (.bool true) ∧ Below W0.heap.size W0 w')
      ⟨List.toArray ((.slice a (n + 1) c) :: u1 :: u2 :: u3 :: (.int .i64 n) :: u5 :: u6 :: u7 :: u8 :: (.slice (some ⟨gl, 0, none⟩) n n) :: u10 :: u11 :: u12 :: u13 :: u14 :: u15 :: u16 :: u17 :: u18 :: u19 :: u20 :: u21 :: u22 :: u23 :: u24 :: u25 :: u26 :: u27 :: u28 :: u29 :: u30 :: u31 :: u32 :: u33 :: u34 :: u35 :: u36 :: u37 :: u38 :: u39 :: u40 :: u41 :: u42 :: u43 :: u44 :: u45 :: u46 :: u47 :: u48 :: u49 :: u50 :: u51 :: u52 :: u53 :: u54 :: u55 :: u56 :: u57 :: u58 :: u59 :: u60 :: u61 :: u62 :: u63 :: u64 :: u65 :: u66 :: u67 :: u68 :: u69 :: u70 :: u71 :: u72 :: u73 :: u74 :: u75 :: u76 :: u77 :: u78 :: u79 :: u80 :: u81 :: u82 :: u83 :: u84 :: u85 :: u86 :: u87 :: u88 :: u89 :: u90 :: u91 :: u92 :: u93 :: u94 :: u95 :: u96 :: u97 :: u98 :: u99 :: u100 :: u101 :: u102 :: u103 :: u104 :: u105 :: u106 :: u107 :: u108 :: u109 :: u110 :: u111 :: u112 :: u113 :: u114 :: u115 :: u116 :: u117 :: u118 :: u119 :: u120 :: u121 :: u122 :: u123 :: u124 :: u125 :: u126 :: u127 :: u128 :: u129 :: u130 :: u131 :: u132 :: u133 :: u134 :: []), []⟩ w := by
  have HE : Hid _ := E
  have HB : Hid _ := hb
  have HN : Hid _ := nm
  have HNH : Hid _ := nh
  have HP : Hid _ := hp
  have HR : Hid _ := R
  clear E hb nm nh hp R
  go_step
  refine wp_drop 16 _ (by kernel_rfl) (fun K hK => ?_)
  conv => arg 2; whnf
  go_wp2_with fail
  go_loopw [11] (fun i wr => ∃ k : Nat, 1 ≤ k ∧ (k ≤ n ∨ k = 1) ∧ i = .int .i64 k ∧ Below w.heap.size w wr) (fun i _ => n - (intOf i).toNat)
  case atStart => exact ⟨1, Nat.le_refl _, .inr rfl, rfl, Below.refl _ _⟩
  case round =>
    obtain ⟨k, hk1, hk, rfl, hbel⟩ := hrel
    by_cases hlt : k < n
    · have R1 := RowE.below HR.out hbel
      obtain ⟨p, hp⟩ : ∃ p, (k - 1) / 2 = p := ⟨_, rfl⟩
      have ax := R1.at (j := k) (by omega)
      have ay := R1.at (j := p) (by omega)
      obtain ⟨x, hx⟩ : ∃ x, x = eg m k := ⟨_, rfl⟩
      obtain ⟨y, hy⟩ : ∃ y, y = eg m p := ⟨_, rfl⟩
      rw [← hx] at ax
      rw [← hy] at ay
      have nx : nn x := by rw [hx]; exact HN.out _ (List.mem_of_getElem? (eg_get (by omega)))
      have ny : nn y := by rw [hy]; exact HN.out _ (List.mem_of_getElem? (eg_get (by omega)))
      have hz : rl x y = false := by
        rw [rl_rlt nx ny, hx, hy, ← hp]; exact HP.out k hk1 hlt
      have HZ : Hid _ := hz
      have hi1 : (0 : Int) ≤ (k : Int) - 1 := by omega
      have hq1 : ((k : Int) - 1) / 2 = (p : Int) := by omega
      have hp2 : p < n := by omega
      have x0 : ∀ d os, (grow (redrawn wr d) os).cell? ⟨gl, k * 4, none⟩ = some (.int .i64 x.at_) := fun d os => (ax.regrown d os).c0
      have x1 : ∀ d os, (grow (redrawn wr d) os).cell? ⟨gl, k * 4 + 1, none⟩ = some (.float .f64 x.co) := fun d os => (ax.regrown d os).c1
      have x2 : ∀ d os, (grow (redrawn wr d) os).cell? ⟨gl, k * 4 + 2, none⟩ = some (.float .f64 x.de) := fun d os => (ax.regrown d os).c2
      have x3 : ∀ d os, (grow (redrawn wr d) os).cell? ⟨gl, k * 4 + 3, none⟩ = some (.int .i64 x.ho) := fun d os => (ax.regrown d os).c3
      have y0 : ∀ d os, (grow (redrawn wr d) os).cell? ⟨gl, p * 4, none⟩ = some (.int .i64 y.at_) := fun d os => (ay.regrown d os).c0
      have y1 : ∀ d os, (grow (redrawn wr d) os).cell? ⟨gl, p * 4 + 1, none⟩ = some (.float .f64 y.co) := fun d os => (ay.regrown d os).c1
      have y2 : ∀ d os, (grow (redrawn wr d) os).cell? ⟨gl, p * 4 + 2, none⟩ = some (.float .f64 y.de) := fun d os => (ay.regrown d os).c2
      have y3 : ∀ d os, (grow (redrawn wr d) os).cell? ⟨gl, p * 4 + 3, none⟩ = some (.int .i64 y.ho) := fun d os => (ay.regrown d os).c3
      clear ax ay R1 hx hy nx ny hz
      go_wp2_with fail
      refine wp_region_quiet_below (by kernel_rfl) (by kernel_rfl) ?_
      repeat (first | go_big_quiet_step ((go_at_call 9; exact Calls.regrown_of (rankLess_eq HZ.out _))) | quiet_step ((go_at_call 9; exact Calls.regrown_of (rankLess_eq HZ.out _))))
      refine wpQuiet_nil ?_
      intro _ hw'
      obtain ⟨⟨dq, osq⟩, hw''⟩ := hw'
      subst hw''
      have hbwq := below_regrown wr dq osq
      generalize grow (redrawn wr dq) osq = wq at *
      clear x0 x1 x2 x3 y0 y1 y2 y3
      go_wp2
      go_roundw
      case rel => exact ⟨k + 1, by omega, by omega, by go_num, hbel.trans (hbwq.mono hbel.size)⟩
      case measure => simp [intOf]; omega
    · go_wp2
      exact f3_tail17 (hW.trans (hbel.mono hW.size)) bn bc HE.out HNH.out (RowE.below HR.out hbel) hm HN.out HB.out

end Go.Proofs.Qxb6601457a
