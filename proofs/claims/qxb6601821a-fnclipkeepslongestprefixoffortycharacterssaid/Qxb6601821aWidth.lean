import Derived.Test.Qxb6601821aPlain
import Derived.Test.Qxb6601821aSeq
import Derived.WalkKit
import Derived.WalkSpells
import Derived.WalkLawsBesides
import Derived.Below
namespace Go.Proofs.Qxb6601821a
set_option linter.unusedSimpArgs false
set_option linter.unusedVariables false
open Go.RowKit

theorem byt_get {s : ByteArray} {k : Nat} (h : k < s.size) : (s[k]'h).toNat = byt s k := by
  rw [byt, get!_pos h]

/-- the rest of the width behind the second byte -/
def restW (s : ByteArray) (i need : Nat) : Nat :=
  if (need ≤ 2 ∨ 128 ≤ byt s (i + 2) ∧ byt s (i + 2) ≤ 191) ∧ (need ≤ 3 ∨ 128 ≤ byt s (i + 3) ∧ byt s (i + 3) ≤ 191) then need else 1

set_option maxRecDepth 100000 in
set_option maxHeartbeats 1600000 in
theorem width_tail9 {u2 u3 u4 u5 u6 u7 u9 u10 u11 u12 u13 u14 u15 u16 u17 u18 u19 u20 u21 u22 u23 u24 u25 u26 u27 u28 u29 u30 u31 u32 u33 u34 u35 u36 u37 u38 u39 u40 u41 u42 u43 u44 u45 u46 u47 u48 u49 u50 u51 u52 u53 u54 u55 u56 u57 u58 u59 u60 u61 u62 u63 u64 u65 u66 u67 u68 u69 u70 u71 u72 u73 u74 u75 u76 u77 u78 u79 u80 u81 u82 u83 u84 u85 u86 : Value} {s : ByteArray} {i need : Nat} {w : World} (hs : s.size ≤ 65536) (hn : 2 ≤ need ∧ need ≤ 4) (h1 : i + need ≤ s.size) :
    Code.wp Try.prog (dropSeq 9 (Try.f12.body.getD .skip)) (bodyPost Try.prog Try.f12 fun e w' => e = .returned (.int .i64 (restW s i need)) ∧ w' = w)
      ⟨List.toArray ((.string s) :: (.int .i64 i) :: u2 :: u3 :: u4 :: u5 :: u6 :: u7 :: (.int .i64 need) :: u9 :: u10 :: u11 :: u12 :: u13 :: u14 :: u15 :: u16 :: u17 :: u18 :: u19 :: u20 :: u21 :: u22 :: u23 :: u24 :: u25 :: u26 :: u27 :: u28 :: u29 :: u30 :: u31 :: u32 :: u33 :: u34 :: u35 :: u36 :: u37 :: u38 :: u39 :: u40 :: u41 :: u42 :: u43 :: u44 :: u45 :: u46 :: u47 :: u48 :: u49 :: u50 :: u51 :: u52 :: u53 :: u54 :: u55 :: u56 :: u57 :: u58 :: u59 :: u60 :: u61 :: u62 :: u63 :: u64 :: u65 :: u66 :: u67 :: u68 :: u69 :: u70 :: u71 :: u72 :: u73 :: u74 :: u75 :: u76 :: u77 :: u78 :: u79 :: u80 :: u81 :: u82 :: u83 :: u84 :: u85 :: u86 :: []), []⟩ w := by
  conv => arg 2; whnf
  go_wp2
  go_loop [9] (fun x => ∃ k : Nat, 2 ≤ k ∧ k ≤ need ∧ (∀ j, 2 ≤ j → j < k → 128 ≤ byt s (i + j) ∧ byt s (i + j) ≤ 191) ∧ x = .int .i64 k) (fun x => need - (intOf x).toNat)
  case atStart => exact ⟨2, by omega, by omega, fun j a b => by omega, rfl⟩
  case round =>
    obtain ⟨k, hk2, hk, hall, rfl⟩ := hrel
    by_cases hlt : k < need
    · have gk : i + k < s.size := by omega
      have ck := byt_get gk
      by_cases h3 : byt s (i + k) < 128 ∨ 191 < byt s (i + k)
      · have e1 : restW s i need = 1 := by
          have hk' : k = 2 ∨ k = 3 := by omega
          rw [restW, if_neg]
          rintro ⟨q2, q3⟩
          rcases hk' with rfl | rfl <;> omega
        have HE : Hid _ := e1
        clear e1 hall
        go_wp2
        all_goals first | (exfalso; omega) | (go_ret; rw [HE.out]; exact ⟨rfl, rfl⟩)
      · have hall' : ∀ j, 2 ≤ j → j < k + 1 → 128 ≤ byt s (i + j) ∧ byt s (i + j) ≤ 191 := by
          intro j a b
          by_cases e : j = k
          · subst e; omega
          · exact hall j a (by omega)
        have HA : Hid _ := hall'
        clear hall hall'
        go_wp2
        all_goals try (exfalso; omega)
        go_round
        case rel => exact ⟨k + 1, by omega, by omega, HA.out, by go_num⟩
        case measure => simp [intOf]; omega
    · obtain rfl : k = need := by omega
      have e1 : restW s i k = k := by
        rw [restW, if_pos]
        refine ⟨?_, ?_⟩
        · by_cases a : k ≤ 2
          · exact .inl a
          · exact .inr (hall 2 (by omega) (by omega))
        · by_cases a : k ≤ 3
          · exact .inl a
          · exact .inr (hall 3 (by omega) (by omega))
      have HE : Hid _ := e1
      clear e1 hall
      go_wp2
      go_ret
      rw [HE.out]
      exact ⟨rfl, rfl⟩

set_option maxRecDepth 100000 in
set_option maxHeartbeats 1600000 in
theorem width_tail {u2 u3 u4 u5 u9 u10 u11 u12 u13 u14 u15 u16 u17 u18 u19 u20 u21 u22 u23 u24 u25 u26 u27 u28 u29 u30 u31 u32 u33 u34 u35 u36 u37 u38 u39 u40 u41 u42 u43 u44 u45 u46 u47 u48 u49 u50 u51 u52 u53 u54 u55 u56 u57 u58 u59 u60 u61 u62 u63 u64 u65 u66 u67 u68 u69 u70 u71 u72 u73 u74 u75 u76 u77 u78 u79 u80 u81 u82 u83 u84 u85 u86 : Value} {s : ByteArray} {i lo hi need : Nat} {w : World} (hi0 : i < s.size) (hs : s.size ≤ 65536) (hn : 2 ≤ need ∧ need ≤ 4) :
    Code.wp Try.prog (dropSeq 7 (Try.f12.body.getD .skip)) (bodyPost Try.prog Try.f12 fun e w' => e = .returned (.int .i64 (tailW s i need lo hi)) ∧ w' = w)
      ⟨List.toArray ((.string s) :: (.int .i64 i) :: u2 :: u3 :: u4 :: u5 :: (.int .u8 lo) :: (.int .u8 hi) :: (.int .i64 need) :: u9 :: u10 :: u11 :: u12 :: u13 :: u14 :: u15 :: u16 :: u17 :: u18 :: u19 :: u20 :: u21 :: u22 :: u23 :: u24 :: u25 :: u26 :: u27 :: u28 :: u29 :: u30 :: u31 :: u32 :: u33 :: u34 :: u35 :: u36 :: u37 :: u38 :: u39 :: u40 :: u41 :: u42 :: u43 :: u44 :: u45 :: u46 :: u47 :: u48 :: u49 :: u50 :: u51 :: u52 :: u53 :: u54 :: u55 :: u56 :: u57 :: u58 :: u59 :: u60 :: u61 :: u62 :: u63 :: u64 :: u65 :: u66 :: u67 :: u68 :: u69 :: u70 :: u71 :: u72 :: u73 :: u74 :: u75 :: u76 :: u77 :: u78 :: u79 :: u80 :: u81 :: u82 :: u83 :: u84 :: u85 :: u86 :: []), []⟩ w := by
  by_cases h1 : s.size < i + need
  · have e1 : tailW s i need lo hi = 1 := by simp [tailW, h1]
    have HE : Hid _ := e1
    clear e1
    conv => arg 2; whnf
    go_wp2_with fail
    go_ret
    rw [HE.out]
    exact ⟨rfl, rfl⟩
  have g1 : i + 1 < s.size := by omega
  have c1 := byt_get g1
  by_cases h2 : byt s (i + 1) < lo ∨ hi < byt s (i + 1)
  · have e1 : tailW s i need lo hi = 1 := by simp [tailW, h1, h2]
    have HE : Hid _ := e1
    clear e1
    conv => arg 2; whnf
    go_wp2
    all_goals first | (exfalso; omega) | (go_ret; rw [HE.out]; exact ⟨rfl, rfl⟩)
  have e1 : tailW s i need lo hi = restW s i need := by rw [tailW, if_neg h1, if_neg h2, restW]
  rw [e1]
  clear e1
  refine wp_drop 7 _ (by kernel_rfl) (fun K hK => ?_)
  conv => arg 2; whnf
  go_wp2_with fail
  all_goals try (exfalso; omega)
  refine wp_drop 8 _ (by kernel_rfl) (fun K hK => ?_)
  conv => arg 2; whnf
  go_wp2_with fail
  all_goals first | (exfalso; omega) | (refine width_tail9 hs hn (by omega))

theorem width_tail' {u2 u3 u4 u5 u9 u10 u11 u12 u13 u14 u15 u16 u17 u18 u19 u20 u21 u22 u23 u24 u25 u26 u27 u28 u29 u30 u31 u32 u33 u34 u35 u36 u37 u38 u39 u40 u41 u42 u43 u44 u45 u46 u47 u48 u49 u50 u51 u52 u53 u54 u55 u56 u57 u58 u59 u60 u61 u62 u63 u64 u65 u66 u67 u68 u69 u70 u71 u72 u73 u74 u75 u76 u77 u78 u79 u80 u81 u82 u83 u84 u85 u86 : Value} {s : ByteArray} {i lo hi need : Nat} {lo' hi' need' : Int} {w : World} (hl : lo' = lo) (hh : hi' = hi) (hd : need' = need) (hi0 : i < s.size) (hs : s.size ≤ 65536) (hn : 2 ≤ need ∧ need ≤ 4) (hw : wid s i = tailW s i need lo hi) :
    Code.wp Try.prog (dropSeq 7 (Try.f12.body.getD .skip)) (bodyPost Try.prog Try.f12 fun e w' => e = .returned (.int .i64 (wid s i)) ∧ w' = w)
      ⟨List.toArray ((.string s) :: (.int .i64 i) :: u2 :: u3 :: u4 :: u5 :: (.int .u8 lo') :: (.int .u8 hi') :: (.int .i64 need') :: u9 :: u10 :: u11 :: u12 :: u13 :: u14 :: u15 :: u16 :: u17 :: u18 :: u19 :: u20 :: u21 :: u22 :: u23 :: u24 :: u25 :: u26 :: u27 :: u28 :: u29 :: u30 :: u31 :: u32 :: u33 :: u34 :: u35 :: u36 :: u37 :: u38 :: u39 :: u40 :: u41 :: u42 :: u43 :: u44 :: u45 :: u46 :: u47 :: u48 :: u49 :: u50 :: u51 :: u52 :: u53 :: u54 :: u55 :: u56 :: u57 :: u58 :: u59 :: u60 :: u61 :: u62 :: u63 :: u64 :: u65 :: u66 :: u67 :: u68 :: u69 :: u70 :: u71 :: u72 :: u73 :: u74 :: u75 :: u76 :: u77 :: u78 :: u79 :: u80 :: u81 :: u82 :: u83 :: u84 :: u85 :: u86 :: []), []⟩ w := by
  subst hl; subst hh; subst hd
  rw [hw]
  exact width_tail hi0 hs hn

set_option maxRecDepth 100000 in
set_option maxHeartbeats 3200000 in
theorem width_any (s : ByteArray) (i : Nat) (w : World) (hi0 : i < s.size) (hs : s.size ≤ 65536) :
    Calls Try.prog 12 #[.string s, .int .i64 i] w fun e w' => e = .returned (.int .i64 (wid s i)) ∧ w' = w := by
  have c0 := byt_get hi0
  go_enter Try.func12, Try.ntmps12
  change Code.wp Try.prog (dropSeq 0 (Try.f12.body.getD .skip)) _ _ _
  by_cases k1 : byt s i < 128
  · have e1 := wid_small k1
    have HE : Hid _ := e1
    clear e1
    conv => arg 2; whnf
    go_wp2
    all_goals first | (exfalso; omega) | (go_ret; rw [HE.out]; exact ⟨rfl, rfl⟩)
  refine wp_drop 0 _ (by kernel_rfl) (fun K hK => ?_)
  conv => arg 2; whnf
  go_wp2_with fail
  refine wp_drop 1 _ (by kernel_rfl) (fun K hK => ?_)
  conv => arg 2; whnf
  go_wp2_with fail
  all_goals try (exfalso; omega)
  refine wp_drop 2 _ (by kernel_rfl) (fun K hK => ?_)
  conv => arg 2; whnf
  go_wp2_with fail
  refine wp_drop 3 _ (by kernel_rfl) (fun K hK => ?_)
  conv => arg 2; whnf
  go_wp2_with fail
  refine wp_drop 4 _ (by kernel_rfl) (fun K hK => ?_)
  conv => arg 2; whnf
  go_wp2_with fail
  refine wp_drop 5 _ (by kernel_rfl) (fun K hK => ?_)
  conv => arg 2; whnf
  go_wp2_with fail
  refine wp_drop 6 _ (by kernel_rfl) (fun K hK => ?_)
  conv => arg 2; whnf
  go_wp2_with fail
  all_goals (try simp only [beq_iff_eq, beq_eq_false_iff_ne, ne_eq] at *)
  all_goals first | (exfalso; omega) | (refine width_tail' (need := 2) (lo := 128) (hi := 191) rfl rfl rfl hi0 hs (by omega) (wid_tail (by omega))) | (refine width_tail' (need := 3) (lo := 160) (hi := 191) rfl rfl rfl hi0 hs (by omega) (wid_tail (by omega))) | (refine width_tail' (need := 3) (lo := 128) (hi := 191) rfl rfl rfl hi0 hs (by omega) (wid_tail (by omega))) | (refine width_tail' (need := 3) (lo := 128) (hi := 159) rfl rfl rfl hi0 hs (by omega) (wid_tail (by omega))) | (refine width_tail' (need := 4) (lo := 144) (hi := 191) rfl rfl rfl hi0 hs (by omega) (wid_tail (by omega))) | (refine width_tail' (need := 4) (lo := 128) (hi := 191) rfl rfl rfl hi0 hs (by omega) (wid_tail (by omega))) | (refine width_tail' (need := 4) (lo := 128) (hi := 143) rfl rfl rfl hi0 hs (by omega) (wid_tail (by omega))) | (go_ret; rw [wid_stray (by omega)]; exact ⟨rfl, rfl⟩)
end Go.Proofs.Qxb6601821a
