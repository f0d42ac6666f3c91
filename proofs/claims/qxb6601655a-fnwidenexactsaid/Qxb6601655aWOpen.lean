/-
  The arguments of the widen law, opened: a slice of integers, a slice of values.
-/
import Derived.Test.Qxb6601655aRows
import Derived.Test.Qxb6601655aRowV
import Derived.ProofKit
import Derived.OpenShut
import Derived.ChangeOld
import Derived.Deep.Slices
import Derived.Laws.Cover2
namespace Go.Proofs.Qxb6601655a
set_option linter.unusedSimpArgs false
set_option linter.unusedVariables false
open Go.ChangeShapes Go.WideShapes Go.ChangeAt Go.RowKit

theorem Try.own : ownKnob Try.prog.godebug = none := by kernel_rfl
theorem Try.laidOut : laidOutB Try.prog = true := by kernel_rfl
theorem Try.cells3 : Try.prog.cellsOf 3 = 1 := by kernel_rfl
theorem Try.cells5 : Try.prog.cellsOf 5 = 1 := by kernel_rfl
theorem Try.cells2 : Try.prog.cellsOf 2 = 1 := by kernel_rfl
theorem Try.cells9 : Try.prog.cellsOf 9 = 1 := by kernel_rfl
theorem Try.cells71 : Try.prog.cellsOf 71 = 3 := by kernel_rfl

section
variable {H : Type} {enc : TypeId × Value → H} {w : World} {base : Nat} {spare : Nat → Bool} {held : Bool}

theorem trod_val {fuel : Nat} {cs : List Value} {x : DataW H × List MemPlace} (h : DataW.trod enc Try.prog w base spare held fuel 71 cs = some x) : ∃ y : Vl, cs = vlCells y := by
  obtain ⟨xs, n, _, _, hl, hxl, hf⟩ := DataW.trod_struct Try.underlying71 h
  rw [Try.cells71] at hl
  match cs, hl with
  | [v0, v1, v2], _ =>
    match xs, hxl with
    | [y0, y1, y2], _ =>
      have g0 := hf 0 _ rfl
      have g1 := hf 1 _ rfl
      have g2 := hf 2 _ rfl
      simp only [Try.cells5, Try.cells2, Try.cells9, List.drop_zero, List.drop_succ_cons, List.take_succ_cons, List.take_zero, List.getElem?_cons_zero, List.getElem?_cons_succ] at g0 g1 g2
      obtain ⟨a0, e0, _⟩ := DataW.trod_int Try.underlying5 g0
      obtain ⟨a1, e1, _⟩ := DataW.trod_int Try.underlying2 g1
      obtain ⟨a2, e2, _⟩ := DataW.trod_string Try.underlying9 g2
      cases e0
      cases e1
      cases e2
      exact ⟨⟨a0, a1, a2⟩, rfl⟩

theorem open_vals {a0 : Option Addr} {len cap : Nat} {d : DataW H} {p : List MemPlace} (h : DataW.Trod enc Try.prog w 0 (fun _ => true) true 46 (.slice a0 len cap) d p) :
    ∃ (b o : Nat) (ls : List Vl), Vls w a0 len b o ls ∧ len ≤ maxLen := by
  obtain ⟨fuel, hf⟩ := h
  rcases Go.Deep.open_slice Try.underlying46 hf with ⟨hcs, _⟩ | ⟨a, len', cap', m, n, D, Pl, hcs, _, hl, hm, hmm, _, hx⟩
  · simp [Value.cells] at hcs
    obtain ⟨rfl, rfl, rfl⟩ := hcs
    exact ⟨0, 0, [], ⟨rfl, fun h => by omega, fun j hj => by omega⟩, Nat.zero_le _⟩
  · simp [Value.cells] at hcs
    obtain ⟨rfl, rfl, rfl⟩ := hcs
    simp only [if_true] at hmm
    have each : ∀ i, i < len → ∃ y : Vl, ∀ j, j < 3 → w.cell? ((a.add (i * 3)).add j) = (vlCells y)[j]? := by
      intro i hi
      obtain ⟨cs', h1, h2⟩ := hx i (by omega)
      rw [Try.cells71] at h1
      obtain ⟨_, _, hc⟩ := World.cells?_some h1
      obtain ⟨y, rfl⟩ := trod_val h2
      exact ⟨y, hc⟩
    obtain ⟨X, hX⟩ := @Go.Deep.choose_lt Vl ⟨vl0⟩ len _ each
    have hspot : 0 < len → a.spot = none := fun hpos => by
      have h0 := hX 0 hpos 0 (by omega)
      have := World.cell?_spot (h0.trans (by rfl : _ = some (Value.int .u8 (X 0).kd)))
      simpa [Addr.add] using this
    refine ⟨a.block, a.off, (List.range len).map X, ⟨by simp, fun hpos => ?_, fun j hj => ?_⟩, by omega⟩
    · have hs := hspot hpos
      obtain ⟨b, o, s⟩ := a
      simp only at hs
      subst hs; rfl
    · have hs := hspot (by omega)
      obtain ⟨b, o, s⟩ := a
      simp only at hs
      subst hs
      have e : vg ((List.range len).map X) j = X j := by
        unfold vg
        rw [List.getD_eq_getElem?_getD, List.getElem?_map, List.getElem?_range hj]; rfl
      rw [e]
      have key : ∀ q, q < 3 → w.cell? ⟨b, o + j * 3 + q, none⟩ = (vlCells (X j))[q]? := by
        intro q hq
        have := hX j hj q hq
        rw [Go.Deep.add_add, add_plain] at this
        rw [Nat.add_assoc]; exact this
      exact ⟨key 0 (by omega), key 1 (by omega), key 2 (by omega)⟩

theorem open_intz {a0 : Option Addr} {len cap : Nat} {d : DataW H} {p : List MemPlace} (h : DataW.Trod enc Try.prog w 0 (fun _ => true) true 45 (.slice a0 len cap) d p) :
    ∃ (b o : Nat) (zs : List Int), Ints w a0 len b o zs ∧ len ≤ maxLen := by
  obtain ⟨fuel, hf⟩ := h
  rcases open_ints Try.underlying45 Try.underlying3 Try.cells3 hf with ⟨hcs, _⟩ | ⟨a, l, c, zs, hcs, _, hl, hm, hz, _, hcell, _⟩
  · simp [Value.cells] at hcs
    obtain ⟨rfl, rfl, rfl⟩ := hcs
    exact ⟨0, 0, [], Ints.nought _ _ _ _, Nat.zero_le _⟩
  · simp [Value.cells] at hcs
    obtain ⟨rfl, rfl, rfl⟩ := hcs
    simp only [if_true] at hz
    have hs : 0 < len → a = ⟨a.block, a.off, none⟩ := fun hpos => by
      have := World.cell?_spot (hcell 0 (by omega))
      obtain ⟨b, o, s⟩ := a
      simp [Addr.add] at this
      subst this; rfl
    refine ⟨a.block, a.off, zs.take len, ⟨by rw [List.length_take]; omega, fun hpos => by rw [← hs hpos], fun j hj => ?_⟩, by omega⟩
    have h1 := hcell j (by omega)
    rw [hs (by omega), add_plain] at h1
    have e : ig (zs.take len) j = zs.getD j 0 := by simp [ig, List.getElem?_take, hj]
    rw [e]
    exact h1
end

end Go.Proofs.Qxb6601655a
