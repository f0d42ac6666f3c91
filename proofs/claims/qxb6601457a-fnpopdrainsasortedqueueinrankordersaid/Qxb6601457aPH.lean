import Derived.Test.Qxb6601457aPG
namespace Go.Proofs.Qxb6601457a
set_option linter.unusedSimpArgs false
set_option linter.unusedVariables false
open Go.RowKit Go.Sort
attribute [local go_sem] run_store_float

theorem cons_eg {c : List Ent} {m : Nat} (h : c.length = m + 1) : c = eg c 0 :: c.drop 1 := by
  match c, h with
  | x :: t, _ => rfl

theorem eg_append_left {A B : List Ent} {j : Nat} (h : j < A.length) : eg (A ++ B) j = eg A j := by simp [eg, List.getElem?_append, h]
theorem eg_append_here (A B : List Ent) (x : Ent) : eg (A ++ x :: B) A.length = x := by simp [eg]

/-- What the draining loop keeps of the lists: O has left, q still waits. -/
structure Drain (h O q : List Ent) : Prop where
  bag : SB (O ++ q) h
  heap : Heap q q.length
  srt : ∀ j, 1 ≤ j → j < O.length → rlt (eg O j) (eg O (j - 1)) = false
  last : 1 ≤ O.length → ∀ y ∈ q, rlt y (eg O (O.length - 1)) = false

theorem Drain.next {h O q c' : List Ent} {m : Nat} (D : Drain h O q) (hq : q.length = m + 1) (p : Popped q c' m) : Drain h (O ++ [eg q 0]) (c'.take m) := by
  have hlc := p.len
  have hlt : (c'.take m).length = m := by rw [List.length_take]; omega
  refine ⟨?_, ?_, ?_, ?_⟩
  · intro r
    rw [← D.bag r, List.countP_append, List.countP_append, List.countP_append, p.bag r]
    conv => rhs; rw [cons_eg hq, List.countP_cons]
    rw [List.countP_singleton]
    omega
  · rw [hlt]; exact p.heap.take
  · intro j j1 j2
    rw [List.length_append, List.length_singleton] at j2
    by_cases e : j = O.length
    · subst e
      rw [eg_append_here, eg_append_left (by omega)]
      exact D.last (by omega) _ (List.mem_of_getElem? (eg_get (by omega)))
    · rw [eg_append_left (by omega), eg_append_left (by omega)]
      exact D.srt j j1 (by omega)
  · intro _ y hy
    rw [List.length_append, List.length_singleton, Nat.add_sub_cancel, eg_append_here]
    refine SB.all (SB.symm p.bag) (q := fun y => rlt y (eg q 0) = false) ?_ y hy
    intro z hz
    obtain ⟨i, hi⟩ := List.mem_iff_getElem?.1 hz
    rw [List.getElem?_drop] at hi
    have hil := (List.getElem?_eq_some_iff.1 hi).1
    rw [eg_get hil] at hi
    cases hi
    exact D.heap.top _ hil

theorem RowE.popped {w w' : World} {e : TypeId} {g bq n cap k : Nat} {h rest row : List Ent} (R : RowE w k e row) (hd : PopDone w w' g bq n cap h rest) (h1 : k ≠ g) (h2 : k ≠ bq) : RowE w' k e row := by
  obtain ⟨c, r, p, q, b⟩ := hd
  exact (b.block k R.lt (by omega)).trans R

theorem drain_block {w wx wy wz : World} {g bq m cap n go k : Nat} {q rest : List Ent} {o : Obj} {e : TypeId} {size gl cap' : Nat} {cs news cs' : List Value}
    (hd : PopDone w wx g bq m cap q rest) (hb : Below wx.heap.size wx wy) (hap : Appended (wy.alloc o) e size (.slice (some ⟨go, 0, none⟩) k n) k n cs news gl cap' wz cs') {j : Nat} (hj : j < wx.heap.size) (hne : j ≠ go) : wz.heap[j]? = wx.heap[j]? := by
  have h1 := hap.grow.block j (by have := hb.size; simp; omega) (by simp [Value.ownBlock]; omega)
  rw [h1, Go.heap_alloc_old wy o (by have := hb.size; omega)]
  exact hb.block j hj

theorem drain_q {w wx wy wz : World} {g bq m cap n go k : Nat} {q rest : List Ent} {o : Obj} {e : TypeId} {size gl cap' : Nat} {cs news cs' : List Value}
    (hd : PopDone w wx g bq m cap q rest) (hb : Below wx.heap.size wx wy) (hap : Appended (wy.alloc o) e size (.slice (some ⟨go, 0, none⟩) k n) k n cs news gl cap' wz cs') (hne : bq ≠ go) : wz.cell? ⟨bq, 0, none⟩ = some (.slice (some ⟨g, 0, none⟩) m cap) := by
  have hd' := hd
  obtain ⟨c, r, p, qq, b⟩ := hd'
  have := (drain_block hd hb hap (Array.getElem?_eq_some_iff.1 qq).1 hne).trans qq
  rw [cell_of_row wz bq 0 _ _ _ this]; rfl

theorem Drain.heap' {h O q : List Ent} {m : Nat} (D : Drain h O q) (hq : q.length = m + 1) : Heap q (m + 1) := by have := D.heap; rw [hq] at this; exact this

set_option maxRecDepth 100000 in
set_option maxHeartbeats 3200000 in
theorem f4_tail8 {u1 u2 u5 u7 u8 u9 u10 u11 u12 u13 u14 u15 u16 u17 u18 u19 u20 u21 u22 u23 u24 u25 u26 u27 u28 u29 u30 u31 u32 u33 u34 u35 u36 u37 u38 u39 u40 u41 u42 u43 u44 u45 u46 u47 u48 u49 u50 u51 u52 u53 u54 u55 u56 u57 u58 u59 u60 u61 u62 u63 u64 u65 u66 u67 u68 u69 u70 u71 u72 u73 u74 u75 u76 u77 u78 u79 u80 u81 u82 u83 u84 u85 u86 u87 u88 u89 u90 u91 u92 : Value} {W0 w : World} {n c b o : Nat} {a : Option Addr} {h : List Ent} {gs g bq go : Nat} {S : List Ent} (hW : Below W0.heap.size W0 w) (bn : n ≤ 32768) (E : Ents W0 a n b o h) (nh : ∀ x ∈ h, nn x) (R : RowE w go 27 (List.replicate n ent0)) (Q : w.heap[bq]? = some (.cells #[.slice (some ⟨g, 0, none⟩) n n] 29 (0, 0))) (G : RowE w g 31 S) (hS : S.length = n) (ne : bq ≠ g) (ne1 : go ≠ g) (ne2 : go ≠ bq) (hbq : W0.heap.size ≤ bq) (hgg : W0.heap.size ≤ g) (hgo : W0.heap.size ≤ go) (hsb : SB S h) (hp : Heap S n) :
    Code.wp Try.prog (dropSeq 8 (Try.f4.body.getD .skip)) (bodyPost Try.prog Try.f4 fun e w' => e = .returned (.bool true) ∧ Below W0.heap.size W0 w')
      ⟨List.toArray ((.slice a n c) :: u1 :: u2 :: (.slice (some ⟨gs, 0, none⟩) n n) :: (.pointer (some ⟨bq, 0, none⟩)) :: u5 :: (.slice (some ⟨go, 0, none⟩) 0 n) :: u7 :: u8 :: u9 :: u10 :: u11 :: u12 :: u13 :: u14 :: u15 :: u16 :: u17 :: u18 :: u19 :: u20 :: u21 :: u22 :: u23 :: u24 :: u25 :: u26 :: u27 :: u28 :: u29 :: u30 :: u31 :: u32 :: u33 :: u34 :: u35 :: u36 :: u37 :: u38 :: u39 :: u40 :: u41 :: u42 :: u43 :: u44 :: u45 :: u46 :: u47 :: u48 :: u49 :: u50 :: u51 :: u52 :: u53 :: u54 :: u55 :: u56 :: u57 :: u58 :: u59 :: u60 :: u61 :: u62 :: u63 :: u64 :: u65 :: u66 :: u67 :: u68 :: u69 :: u70 :: u71 :: u72 :: u73 :: u74 :: u75 :: u76 :: u77 :: u78 :: u79 :: u80 :: u81 :: u82 :: u83 :: u84 :: u85 :: u86 :: u87 :: u88 :: u89 :: u90 :: u91 :: u92 :: []), []⟩ w := by
  obtain ⟨i27, hi27, hz0, hz1, hz2⟩ := info_parts Try.info27
  have D0 : Drain h [] S := ⟨hsb, by rw [hS]; exact hp, fun j a b => by simp at b, fun a => by simp at a⟩
  have nS : ∀ x ∈ S, nn x := SB.all (SB.symm hsb) nh
  have HE : Hid _ := E
  have HNH : Hid _ := nh
  clear E nh hsb hp
  go_step
  refine wp_drop 8 _ (by kernel_rfl) (fun K hK => ?_)
  conv => arg 2; whnf
  go_wp2_with fail
  go_loopw [6, 7] (fun v i wr => ∃ (k : Nat) (O q rest : List Ent), k ≤ n ∧ v = .slice (some ⟨go, 0, none⟩) k n ∧ i = .int .i64 k ∧ O.length = k ∧ q.length = n - k ∧ RowE wr go 27 (O ++ List.replicate (n - k) ent0) ∧ wr.heap[bq]? = some (.cells #[.slice (some ⟨g, 0, none⟩) (n - k) n] 29 (0, 0)) ∧ RowE wr g 31 (q ++ rest) ∧ Drain h O q ∧ (∀ x ∈ q, nn x) ∧ Below W0.heap.size W0 wr) (fun _ i _ => n - (intOf i).toNat)
  case atStart => exact ⟨0, [], S, [], Nat.zero_le _, rfl, rfl, rfl, hS, R, Q, by rw [List.append_nil]; exact G, D0, nS, hW⟩
  case round =>
    clear R Q G D0 nS hW hS
    obtain ⟨k, O, q, rest, hk, rfl, rfl, lO, lq, R, Q, G, D, nq, hbel⟩ := hrel
    by_cases hlt : k < n
    · have hlt' : (k : Int) < n := by omega
      obtain ⟨m, hm⟩ : ∃ m, n - k = m + 1 := ⟨n - k - 1, by omega⟩
      rw [hm] at Q R lq
      have hlq : q.length = m + 1 := lq
      obtain ⟨B, hB⟩ : ∃ B, B = List.replicate m ent0 := ⟨_, rfl⟩
      have lB : B.length = m := by rw [hB]; simp
      rw [List.replicate_succ, ← hB] at R
      obtain ⟨x, hx⟩ : ∃ x, x = eg q 0 := ⟨_, rfl⟩
      have hmi : (m : Int) = n - 1 - k := by omega
      have hmn : m + 1 ≤ n := by omega
      have hmb : m ≤ 32768 := by omega
      have HX : Hid _ := hx
      have HQ : Hid _ := Q
      have HG : Hid _ := G
      have HO : Hid _ := R
      have HD : Hid _ := D
      have HNQ : Hid _ := nq
      have HBB : Hid _ := hB
      have HMI : Hid _ := hmi
      have HM : Hid _ := hm
      clear hx Q G R D nq hB lq hmi hm
      go_wp2_with (first | (go_at_call 11; go_must (refine (zzpop_any bq g m n q rest _ hmb hmn ne HQ.out HG.out hlq (Drain.heap' HD.out hlq) HNQ.out).mono ?_); rintro e wx ⟨rfl, hd⟩; rw [← HX.out]; unfold ev; have HPD : Hid _ := hd; clear hd) | (go_at_call 13; go_must (refine (fromEntry_any _ _ _ _ _).mono ?_); rintro e wy ⟨rfl, hb⟩) | (at_builtin; go_must (refine wpList_append_exact _ rfl (.tmp 61) (.tmp 64) 22 rfl 27 i27 (.agg #[.int .i64 0, .float .f64 0, .float .f64 0, .int .i64 0]) 4 32 Try.underlying22 hi27 hz0 hz1 hz2 rfl (.slice (some ⟨go, 0, none⟩) k n) k n (flatE (O ++ ent0 :: B)) rfl (own_of_rowE (RowE.below (RowE.below (RowE.popped HO.out HPD.out (by omega) (by omega)) hb) (by repeat (first | exact Below.refl _ _ | apply Below.drew | (refine Below.alloc ?_ (by simp) _)))) (by have := HM.out; simp [lO, lB]; omega) (by omega) (by omega)) ⟨wy.heap.size, 0, none⟩ 1 (entCells x) rfl rfl (World.news_of_block (cs := #[.int .i64 x.at_, .float .f64 x.co, .float .f64 x.de, .int .i64 x.ho]) (t := 27) (fr := (0, 0)) (Go.heap_alloc_new wy _)) (ent_oneCell x) (by unfold maxLen; omega) (by omega) ?_); intro gl cap' wz cs' hap; obtain ⟨hgl', hcap', R3⟩ := row_appendedE lO (by have := HM.out; omega) hap; replace hgl' := hgl'.symm; replace hcap' := hcap'.symm; subst hgl'; subst hcap'; have HR3 : Hid _ := R3; have HAP : Hid _ := hap; clear R3 hap; have qz : wz.cell? ⟨bq, 0, none⟩ = some (.slice (some ⟨g, 0, none⟩) m n) := (drain_q HPD.out hb HAP.out (by omega))))
      · exfalso
        have h1 := HMI.out
        rename_i hq
        simp only [bne_iff_ne, ne_eq] at hq
        omega
      · obtain ⟨c', r, p, qq, bt⟩ := HPD.out
        have hmk : n - (k + 1) = m := by have := HM.out; omega
        have hlc := p.len
        have B0 : Below W0.heap.size wr wx := bt.below hbel.size (fun j hj => by rcases hj with rfl | rfl <;> assumption)
        have B1 : Below W0.heap.size W0 wx := hbel.trans B0
        have B2 := B1.trans (hb.mono B1.size)
        have B3 := B2.alloc B2.size (.cells #[.int .i64 x.at_, .float .f64 x.co, .float .f64 x.de, .int .i64 x.ho] 27)
        have B4 := (But.of_grown (S := fun j => j = go) HAP.out.grow (fun j hj => by simp [Value.ownBlock] at hj; exact hj.symm)).below B3.size (fun j hj => by rw [hj]; exact hgo)
        refine ⟨⟨k + 1, O ++ [x], c'.take m, c'.drop m ++ rest, by omega, rfl, by go_num, by simp [lO], by rw [List.length_take]; omega, ?_, ?_, ?_, ?_, ?_, B3.trans B4⟩, by simp [intOf]; omega⟩
        · rw [hmk, List.append_assoc, ← HBB.out]; exact HR3.out
        · rw [hmk]; exact (drain_block HPD.out hb HAP.out (Array.getElem?_eq_some_iff.1 qq).1 (by omega)).trans qq
        · rw [← List.append_assoc, List.take_append_drop]; exact (drain_block HPD.out hb HAP.out r.lt (by omega)).trans r
        · rw [HX.out]; exact HD.out.next hlq p
        · exact SB.all (SB.symm p.bag) (fun y hy => HNQ.out y (List.mem_of_mem_drop hy))
    · obtain rfl : k = n := by omega
      have R1 : RowE wr go 27 O := by
        rw [Nat.sub_self, List.replicate_zero, List.append_nil] at R; exact R
      have hq0 : q = [] := List.length_eq_zero_iff.1 (by omega)
      subst hq0
      have HR : Hid _ := R1
      have HB : Hid _ := D.bag
      have HSR : Hid _ := D.srt
      clear R R1 Q G D nq
      go_wp2
      exact f4_tail9 hbel bn HE.out HNH.out HR.out lO (by have := HB.out; rw [List.append_nil] at this; exact this) (by have := HSR.out; rw [lO] at this; exact this)

end Go.Proofs.Qxb6601457a
