import Derived.Test.Qxb6601457aPF
namespace Go.Proofs.Qxb6601457a
set_option linter.unusedSimpArgs false
set_option linter.unusedVariables false
open Go.RowKit Go.Sort
attribute [local go_sem] run_store_float

theorem own_of_rowE {w : World} {e : TypeId} {g k N : Nat} {row : List Ent} (h : RowE w g e row) (hl : row.length = N) (hk : k ≤ N) (hN : N ≤ 32769) : Own w e 4 (.slice (some ⟨g, 0, none⟩) k N) k N (flatE row) :=
  Own.mk h (by rw [flatE_length, hl]) hk (by unfold maxLen; omega)

theorem row_appendedE {w wx : World} {e : TypeId} {g k N cap' g' : Nat} {A B : List Ent} {x y : Ent} {cs' : List Value} (hA : A.length = k) (hN : A.length + (B.length + 1) = N)
    (h : Appended w e 4 (.slice (some ⟨g, 0, none⟩) k N) k N (flatE (A ++ y :: B)) (entCells x) g' cap' wx cs') : g' = g ∧ cap' = N ∧ RowE wx g e (A ++ x :: B) := by
  have hlA : (flatE A).length = k * 4 := by rw [flatE_length, hA]
  rcases h.ways with ⟨_, hg, hc, hcs⟩ | ⟨hn, _⟩
  · have hg' : g = g' := by simpa [Value.ownBlock] using hg
    subst hg'
    refine ⟨rfl, hc, ?_⟩
    unfold RowE
    rw [h.own.heap, hcs]
    congr 3
    rw [flatE_append, flatE_append, flatE_cons, flatE_cons, List.append_assoc]
    congr 1
    · rw [← hlA]; simp
    · congr 1
      rw [show (k + 1) * 4 = (flatE A).length + 4 from by omega, List.drop_append, ← List.drop_drop]
      simp [entCells]
  · omega

set_option maxRecDepth 100000 in
set_option maxHeartbeats 3200000 in
theorem f4_tail10 {u1 u2 u3 u4 u5 u7 u8 u9 u10 u11 u12 u13 u14 u15 u16 u17 u18 u19 u20 u21 u22 u23 u24 u25 u26 u27 u28 u29 u30 u31 u32 u33 u34 u35 u36 u37 u38 u39 u40 u41 u42 u43 u44 u45 u46 u47 u48 u49 u50 u51 u52 u53 u54 u55 u56 u57 u58 u59 u60 u61 u62 u63 u64 u65 u66 u67 u68 u69 u70 u71 u72 u73 u74 u75 u76 u77 u78 u79 u80 u81 u82 u83 u84 u85 u86 u87 u88 u89 u90 u91 u92 : Value} {W0 w : World} {n c b o : Nat} {a : Option Addr} {h : List Ent} {go : Nat} {m : List Ent} (hW : Below W0.heap.size W0 w) (bn : n ≤ 32768) (E : Ents W0 a n b o h) (nh : ∀ x ∈ h, nn x) (R : RowE w go 27 m) (hm : m.length = n) (hb : SB m h) :
    Code.wp Try.prog (dropSeq 10 (Try.f4.body.getD .skip)) (bodyPost Try.prog Try.f4 fun e w' => e = .returned (.bool true) ∧ Below W0.heap.size W0 w')
      ⟨List.toArray ((.slice a n c) :: u1 :: u2 :: u3 :: u4 :: u5 :: (.slice (some ⟨go, 0, none⟩) n n) :: u7 :: u8 :: u9 :: u10 :: u11 :: u12 :: u13 :: u14 :: u15 :: u16 :: u17 :: u18 :: u19 :: u20 :: u21 :: u22 :: u23 :: u24 :: u25 :: u26 :: u27 :: u28 :: u29 :: u30 :: u31 :: u32 :: u33 :: u34 :: u35 :: u36 :: u37 :: u38 :: u39 :: u40 :: u41 :: u42 :: u43 :: u44 :: u45 :: u46 :: u47 :: u48 :: u49 :: u50 :: u51 :: u52 :: u53 :: u54 :: u55 :: u56 :: u57 :: u58 :: u59 :: u60 :: u61 :: u62 :: u63 :: u64 :: u65 :: u66 :: u67 :: u68 :: u69 :: u70 :: u71 :: u72 :: u73 :: u74 :: u75 :: u76 :: u77 :: u78 :: u79 :: u80 :: u81 :: u82 :: u83 :: u84 :: u85 :: u86 :: u87 :: u88 :: u89 :: u90 :: u91 :: u92 :: []), []⟩ w := by
  have HM : Ents w (some ⟨go, 0, none⟩) n go 0 m := by
    have := R.ents (n := n) (by omega)
    rw [List.take_of_length_le (by omega)] at this
    exact this
  have HM' : Hid _ := HM
  have HE : Hid _ := E.below hW
  have HB : Hid _ := hb
  have HN : Hid _ := SB.all (SB.symm hb) nh
  have HD : Hid _ := nh
  clear E nh hb R HM
  conv => arg 2; whnf
  go_wp2_with (go_at_call 14; go_must (refine (multiset_any _ _ n _ _ go 0 b o m h _ bn HM'.out HE.out HN.out HD.out HB.out).mono ?_); rintro e wx ⟨rfl, hbx⟩)
  go_ret
  exact ⟨rfl, hW.trans (hbx.mono hW.size)⟩

set_option maxRecDepth 100000 in
set_option maxHeartbeats 3200000 in
theorem f4_tail9 {u1 u2 u3 u4 u5 u7 u8 u9 u10 u11 u12 u13 u14 u15 u16 u17 u18 u19 u20 u21 u22 u23 u24 u25 u26 u27 u28 u29 u30 u31 u32 u33 u34 u35 u36 u37 u38 u39 u40 u41 u42 u43 u44 u45 u46 u47 u48 u49 u50 u51 u52 u53 u54 u55 u56 u57 u58 u59 u60 u61 u62 u63 u64 u65 u66 u67 u68 u69 u70 u71 u72 u73 u74 u75 u76 u77 u78 u79 u80 u81 u82 u83 u84 u85 u86 u87 u88 u89 u90 u91 u92 : Value} {W0 w : World} {n c b o : Nat} {a : Option Addr} {h : List Ent} {go : Nat} {m : List Ent} (hW : Below W0.heap.size W0 w) (bn : n ≤ 32768) (E : Ents W0 a n b o h) (nh : ∀ x ∈ h, nn x) (R : RowE w go 27 m) (hm : m.length = n) (hb : SB m h) (hs : ∀ k, 1 ≤ k → k < n → rlt (eg m k) (eg m (k - 1)) = false) :
    Code.wp Try.prog (dropSeq 9 (Try.f4.body.getD .skip)) (bodyPost Try.prog Try.f4 fun e w' => e = .returned (.bool true) ∧ Below W0.heap.size W0 w')
      ⟨List.toArray ((.slice a n c) :: u1 :: u2 :: u3 :: u4 :: u5 :: (.slice (some ⟨go, 0, none⟩) n n) :: u7 :: u8 :: u9 :: u10 :: u11 :: u12 :: u13 :: u14 :: u15 :: u16 :: u17 :: u18 :: u19 :: u20 :: u21 :: u22 :: u23 :: u24 :: u25 :: u26 :: u27 :: u28 :: u29 :: u30 :: u31 :: u32 :: u33 :: u34 :: u35 :: u36 :: u37 :: u38 :: u39 :: u40 :: u41 :: u42 :: u43 :: u44 :: u45 :: u46 :: u47 :: u48 :: u49 :: u50 :: u51 :: u52 :: u53 :: u54 :: u55 :: u56 :: u57 :: u58 :: u59 :: u60 :: u61 :: u62 :: u63 :: u64 :: u65 :: u66 :: u67 :: u68 :: u69 :: u70 :: u71 :: u72 :: u73 :: u74 :: u75 :: u76 :: u77 :: u78 :: u79 :: u80 :: u81 :: u82 :: u83 :: u84 :: u85 :: u86 :: u87 :: u88 :: u89 :: u90 :: u91 :: u92 :: []), []⟩ w := by
  have HE : Hid _ := E
  have HB : Hid _ := hb
  have HN : Hid _ := SB.all (SB.symm hb) nh
  have HNH : Hid _ := nh
  have HP : Hid _ := hs
  have HR : Hid _ := R
  clear E hb nh hs R
  go_step
  refine wp_drop 9 _ (by kernel_rfl) (fun K hK => ?_)
  conv => arg 2; whnf
  go_wp2_with fail
  go_loopw [8] (fun i wr => ∃ k : Nat, 1 ≤ k ∧ (k ≤ n ∨ k = 1) ∧ i = .int .i64 k ∧ Below w.heap.size w wr) (fun i _ => n - (intOf i).toNat)
  case atStart => exact ⟨1, Nat.le_refl _, .inr rfl, rfl, Below.refl _ _⟩
  case round =>
    obtain ⟨k, hk1, hk, rfl, hbel⟩ := hrel
    by_cases hlt : k < n
    · have R1 := RowE.below HR.out hbel
      obtain ⟨p, hp⟩ : ∃ p, k - 1 = p := ⟨_, rfl⟩
      have ax := R1.at (j := k) (by omega)
      have ay := R1.at (j := p) (by omega)
      obtain ⟨x, hx⟩ : ∃ x, x = eg m k := ⟨_, rfl⟩
      obtain ⟨y, hy⟩ : ∃ y, y = eg m p := ⟨_, rfl⟩
      rw [← hx] at ax
      rw [← hy] at ay
      have nx : nn x := by rw [hx]; exact HN.out _ (List.mem_of_getElem? (eg_get (by omega)))
      have ny : nn y := by rw [hy]; exact HN.out _ (List.mem_of_getElem? (eg_get (by omega)))
      have hz : rl x y = false := by
        rw [rl_rlt nx ny, hx, hy, ← hp]; exact HP.out k hk1 hlt
      have HZ : Hid _ := hz
      have hlt' : (k : Int) < n := by omega
      have hi1 : (0 : Int) ≤ (k : Int) - 1 := by omega
      have hq1 : (k : Int) - 1 = (p : Int) := by omega
      have hp2 : p < n := by omega
      have hp2' : (p : Int) < n := by omega
      have x0 : ∀ d os, (grow (redrawn wr d) os).cell? ⟨go, k * 4, none⟩ = some (.int .i64 x.at_) := fun d os => (ax.regrown d os).c0
      have x1 : ∀ d os, (grow (redrawn wr d) os).cell? ⟨go, k * 4 + 1, none⟩ = some (.float .f64 x.co) := fun d os => (ax.regrown d os).c1
      have x2 : ∀ d os, (grow (redrawn wr d) os).cell? ⟨go, k * 4 + 2, none⟩ = some (.float .f64 x.de) := fun d os => (ax.regrown d os).c2
      have x3 : ∀ d os, (grow (redrawn wr d) os).cell? ⟨go, k * 4 + 3, none⟩ = some (.int .i64 x.ho) := fun d os => (ax.regrown d os).c3
      have y0 : ∀ d os, (grow (redrawn wr d) os).cell? ⟨go, p * 4, none⟩ = some (.int .i64 y.at_) := fun d os => (ay.regrown d os).c0
      have y1 : ∀ d os, (grow (redrawn wr d) os).cell? ⟨go, p * 4 + 1, none⟩ = some (.float .f64 y.co) := fun d os => (ay.regrown d os).c1
      have y2 : ∀ d os, (grow (redrawn wr d) os).cell? ⟨go, p * 4 + 2, none⟩ = some (.float .f64 y.de) := fun d os => (ay.regrown d os).c2
      have y3 : ∀ d os, (grow (redrawn wr d) os).cell? ⟨go, p * 4 + 3, none⟩ = some (.int .i64 y.ho) := fun d os => (ay.regrown d os).c3
      clear ax ay R1 hx hy nx ny hz
      go_wp2_with fail
      refine wp_region_quiet_below (by kernel_rfl) (by kernel_rfl) ?_
      repeat (first | go_big_quiet_step ((go_at_call 9; exact Calls.regrown_of (rankLess_eq HZ.out _))) | quiet_step ((go_at_call 9; exact Calls.regrown_of (rankLess_eq HZ.out _))))
      refine wpQuiet_nil ?_
      intro _ hw'
      obtain ⟨⟨dq, osq⟩, hw''⟩ := hw'
      subst hw''
      have hbwq := below_regrown wr dq osq
      generalize grow (redrawn wr dq) osq = wq at *
      clear x0 x1 x2 x3 y0 y1 y2 y3
      go_wp2
      go_roundw
      case rel => exact ⟨k + 1, by omega, by omega, by go_num, hbel.trans (hbwq.mono hbel.size)⟩
      case measure => simp [intOf]; omega
    · go_wp2
      exact f4_tail10 (hW.trans (hbel.mono hW.size)) bn HE.out HNH.out (RowE.below HR.out hbel) hm HB.out

end Go.Proofs.Qxb6601457a
