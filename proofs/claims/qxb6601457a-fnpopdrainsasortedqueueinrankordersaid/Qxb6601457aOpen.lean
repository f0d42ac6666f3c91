/-
  The arguments of the route laws, opened: a slice of labels, a slice of integers, a label by value.
-/
import Derived.Test.Qxb6601457aRows
import Derived.Test.Qxb6601457aLabs
import Derived.ProofKit
import Derived.OpenShut
import Derived.ChangeOld
import Derived.Deep.Slices
import Derived.Laws.Cover2
namespace Go.Proofs.Qxb6601457a
set_option linter.unusedSimpArgs false
set_option linter.unusedVariables false
open Go.ChangeShapes Go.WideShapes Go.ChangeAt Go.RowKit

theorem Try.own : ownKnob Try.prog.godebug = none := by kernel_rfl
theorem Try.laidOut : laidOutB Try.prog = true := by kernel_rfl
theorem Try.cells41 : Try.prog.cellsOf 41 = 6 := by kernel_rfl
theorem Try.cells25 : Try.prog.cellsOf 25 = 1 := by kernel_rfl
theorem Try.cells3 : Try.prog.cellsOf 3 = 1 := by kernel_rfl

section
variable {H : Type} {enc : TypeId × Value → H} {w : World} {base : Nat} {spare : Nat → Bool} {held : Bool}

theorem trod_f64 {P : Program} {t : TypeId} {fuel : Nat} {cs : List Value} {x : DataW H × List MemPlace} (ht : P.underlying t = some (.float .f64)) (h : DataW.trod enc P w base spare held fuel t cs = some x) : ∃ n, cs = [.float .f64 n] := by
  cases fuel with
  | zero => simp [DataW.trod] at h
  | succ n =>
    unfold DataW.trod at h
    rw [ht] at h
    split at h <;> simp_all

theorem trod_lab {fuel : Nat} {cs : List Value} {x : DataW H × List MemPlace} (h : DataW.trod enc Try.prog w base spare held fuel 41 cs = some x) : ∃ y : Lab, cs = labCells y := by
  obtain ⟨xs, n, _, _, hl, hxl, hf⟩ := DataW.trod_struct Try.underlying41 h
  rw [Try.cells41] at hl
  match cs, hl with
  | [v0, v1, v2, v3, v4, v5], _ =>
    match xs, hxl with
    | [y0, y1, y2, y3, y4, y5], _ =>
      have g0 := hf 0 _ rfl
      have g1 := hf 1 _ rfl
      have g2 := hf 2 _ rfl
      have g3 := hf 3 _ rfl
      have g4 := hf 4 _ rfl
      have g5 := hf 5 _ rfl
      simp only [Try.cells25, Try.cells3, List.drop_zero, List.drop_succ_cons, List.take_succ_cons, List.take_zero, List.getElem?_cons_zero, List.getElem?_cons_succ] at g0 g1 g2 g3 g4 g5
      obtain ⟨a0, e0⟩ := trod_f64 Try.underlying25 g0
      obtain ⟨a1, e1⟩ := trod_f64 Try.underlying25 g1
      obtain ⟨a2, e2⟩ := trod_f64 Try.underlying25 g2
      obtain ⟨a3, e3, _⟩ := DataW.trod_int Try.underlying3 g3
      obtain ⟨a4, e4, _⟩ := DataW.trod_int Try.underlying3 g4
      obtain ⟨a5, e5, _⟩ := DataW.trod_int Try.underlying3 g5
      cases e0
      cases e1
      cases e2
      cases e3
      cases e4
      cases e5
      exact ⟨⟨a0, a1, a2, a3, a4, a5⟩, rfl⟩

def lab0 : Lab := ⟨0, 0, 0, 0, 0, 0⟩

theorem open_labs {a0 : Option Addr} {len cap : Nat} {d : DataW H} {p : List MemPlace} (h : DataW.Trod enc Try.prog w 0 (fun _ => true) true 38 (.slice a0 len cap) d p) :
    ∃ (b o : Nat) (ls : List Lab), Labs w a0 len b o ls lab0 ∧ ls.length = len ∧ len ≤ maxLen := by
  obtain ⟨fuel, hf⟩ := h
  rcases Go.Deep.open_slice Try.underlying38 hf with ⟨hcs, _⟩ | ⟨a, len', cap', m, n, D, Pl, hcs, _, hl, hm, hmm, _, hx⟩
  · simp [Value.cells] at hcs
    obtain ⟨rfl, rfl, rfl⟩ := hcs
    exact ⟨0, 0, [], ⟨fun h => by omega, fun j hj => by omega⟩, rfl, Nat.zero_le _⟩
  · simp [Value.cells] at hcs
    obtain ⟨rfl, rfl, rfl⟩ := hcs
    simp only [if_true] at hmm
    have each : ∀ i, i < len → ∃ y : Lab, ∀ j, j < 6 → w.cell? ((a.add (i * 6)).add j) = (labCells y)[j]? := by
      intro i hi
      obtain ⟨cs', h1, h2⟩ := hx i (by omega)
      rw [Try.cells41] at h1
      obtain ⟨_, _, hc⟩ := World.cells?_some h1
      obtain ⟨y, rfl⟩ := trod_lab h2
      exact ⟨y, hc⟩
    obtain ⟨X, hX⟩ := @Go.Deep.choose_lt Lab ⟨lab0⟩ len _ each
    have hspot : 0 < len → a.spot = none := fun hpos => by
      have h0 := hX 0 hpos 0 (by omega)
      have := World.cell?_spot (h0.trans (by rfl : _ = some (Value.float .f64 (X 0).wt)))
      simpa [Addr.add] using this
    refine ⟨a.block, a.off, (List.range len).map X, ⟨fun hpos => ?_, fun j hj => ?_⟩, by simp, by omega⟩
    · have hs := hspot hpos
      obtain ⟨b, o, s⟩ := a
      simp only at hs
      subst hs; rfl
    · have hs := hspot (by omega)
      obtain ⟨b, o, s⟩ := a
      simp only at hs
      subst hs
      have e : ((List.range len).map X).getD j lab0 = X j := by
        rw [List.getD_eq_getElem?_getD, List.getElem?_map, List.getElem?_range hj]; rfl
      rw [e]
      have key : ∀ q, q < 6 → w.cell? ⟨b, o + j * 6 + q, none⟩ = (labCells (X j))[q]? := by
        intro q hq
        have := hX j hj q hq
        rw [Go.Deep.add_add, add_plain] at this
        rw [Nat.add_assoc]; exact this
      exact ⟨key 0 (by omega), key 1 (by omega), key 2 (by omega), key 3 (by omega), key 4 (by omega), key 5 (by omega)⟩

theorem open_kept {a0 : Option Addr} {len cap : Nat} {d : DataW H} {p : List MemPlace} (h : DataW.Trod enc Try.prog w 0 (fun _ => true) true 39 (.slice a0 len cap) d p) :
    ∃ (b o : Nat) (zs : List Int), Ints w a0 len b o zs ∧ (a0 = none → len = 0) ∧ len ≤ maxLen := by
  obtain ⟨fuel, hf⟩ := h
  rcases open_ints Try.underlying39 Try.underlying3 Try.cells3 hf with ⟨hcs, _⟩ | ⟨a, l, c, zs, hcs, _, hl, hm, hz, _, hcell, _⟩
  · simp [Value.cells] at hcs
    obtain ⟨rfl, rfl, rfl⟩ := hcs
    exact ⟨0, 0, [], ⟨fun h => by omega, fun j hj => by omega⟩, fun _ => rfl, Nat.zero_le _⟩
  · simp [Value.cells] at hcs
    obtain ⟨rfl, rfl, rfl⟩ := hcs
    simp only [if_true] at hz
    have hs : 0 < len → a = ⟨a.block, a.off, none⟩ := fun hpos => by
      have := World.cell?_spot (hcell 0 (by omega))
      obtain ⟨b, o, s⟩ := a
      simp [Addr.add] at this
      subst this; rfl
    refine ⟨a.block, a.off, zs, ⟨fun hpos => by rw [← hs hpos], fun j hj => ?_⟩, (fun h => by simp at h), by omega⟩
    have h1 := hcell j (by omega)
    rw [hs (by omega), add_plain] at h1
    exact h1

theorem open_label {r : Reach} {b0 : Nat} {v : Value} {d : DataW H} {p : List MemPlace} (hv : Value.okWide Try.prog w r b0 41 v) (h : DataW.Trod enc Try.prog w base spare held 41 v d p) :
    ∃ c : Lab, v = .agg #[.float .f64 c.wt, .float .f64 c.lo, .float .f64 c.de, .int .i64 c.ho, .int .i64 c.st, .int .i64 c.pr] := by
  obtain ⟨cs, rfl, hsz⟩ := okWide_struct Try.underlying41 hv
  obtain ⟨fuel, hf⟩ := h
  obtain ⟨y, hy⟩ := trod_lab hf
  refine ⟨y, ?_⟩
  have : cs.toList = labCells y := by simpa [Value.cells] using hy
  rw [← Array.toArray_toList (xs := cs), this]; rfl
end

end Go.Proofs.Qxb6601457a
