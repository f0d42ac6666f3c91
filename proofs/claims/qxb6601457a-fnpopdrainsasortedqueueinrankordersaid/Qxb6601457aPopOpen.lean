/-
  A slice of entries, opened.
-/
import Derived.Test.Qxb6601457aOpen
import Derived.Test.Qxb6601457aPopRow
namespace Go.Proofs.Qxb6601457a
set_option linter.unusedSimpArgs false
set_option linter.unusedVariables false
open Go.ChangeShapes Go.WideShapes Go.ChangeAt Go.RowKit

theorem Try.cells27 : Try.prog.cellsOf 27 = 4 := by kernel_rfl

section
variable {H : Type} {enc : TypeId × Value → H} {w : World} {base : Nat} {spare : Nat → Bool} {held : Bool}

theorem trod_ent {fuel : Nat} {cs : List Value} {x : DataW H × List MemPlace} (h : DataW.trod enc Try.prog w base spare held fuel 27 cs = some x) : ∃ y : Ent, cs = entCells y := by
  obtain ⟨xs, n, _, _, hl, hxl, hf⟩ := DataW.trod_struct Try.underlying27 h
  rw [Try.cells27] at hl
  match cs, hl with
  | [v0, v1, v2, v3], _ =>
    match xs, hxl with
    | [y0, y1, y2, y3], _ =>
      have g0 := hf 0 _ rfl
      have g1 := hf 1 _ rfl
      have g2 := hf 2 _ rfl
      have g3 := hf 3 _ rfl
      simp only [Try.cells25, Try.cells3, List.drop_zero, List.drop_succ_cons, List.take_succ_cons, List.take_zero, List.getElem?_cons_zero, List.getElem?_cons_succ] at g0 g1 g2 g3
      obtain ⟨a0, e0, _⟩ := DataW.trod_int Try.underlying3 g0
      obtain ⟨a1, e1⟩ := trod_f64 Try.underlying25 g1
      obtain ⟨a2, e2⟩ := trod_f64 Try.underlying25 g2
      obtain ⟨a3, e3, _⟩ := DataW.trod_int Try.underlying3 g3
      cases e0
      cases e1
      cases e2
      cases e3
      exact ⟨⟨a0, a1, a2, a3⟩, rfl⟩

theorem open_ents {a0 : Option Addr} {len cap : Nat} {d : DataW H} {p : List MemPlace} (h : DataW.Trod enc Try.prog w 0 (fun _ => true) true 22 (.slice a0 len cap) d p) :
    ∃ (b o : Nat) (ls : List Ent), Ents w a0 len b o ls ∧ len ≤ cap ∧ len ≤ maxLen := by
  obtain ⟨fuel, hf⟩ := h
  rcases Go.Deep.open_slice Try.underlying22 hf with ⟨hcs, _⟩ | ⟨a, len', cap', m, n, D, Pl, hcs, _, hl, hm, hmm, _, hx⟩
  · simp [Value.cells] at hcs
    obtain ⟨rfl, rfl, rfl⟩ := hcs
    exact ⟨0, 0, [], ⟨rfl, fun h => by omega, fun j hj => by omega⟩, Nat.le_refl _, Nat.zero_le _⟩
  · simp [Value.cells] at hcs
    obtain ⟨rfl, rfl, rfl⟩ := hcs
    simp only [if_true] at hmm
    have each : ∀ i, i < len → ∃ y : Ent, ∀ j, j < 4 → w.cell? ((a.add (i * 4)).add j) = (entCells y)[j]? := by
      intro i hi
      obtain ⟨cs', h1, h2⟩ := hx i (by omega)
      rw [Try.cells27] at h1
      obtain ⟨_, _, hc⟩ := World.cells?_some h1
      obtain ⟨y, rfl⟩ := trod_ent h2
      exact ⟨y, hc⟩
    obtain ⟨X, hX⟩ := @Go.Deep.choose_lt Ent ⟨ent0⟩ len _ each
    have hspot : 0 < len → a.spot = none := fun hpos => by
      have h0 := hX 0 hpos 0 (by omega)
      have := World.cell?_spot (h0.trans (by rfl : _ = some (Value.int .i64 (X 0).at_)))
      simpa [Addr.add] using this
    refine ⟨a.block, a.off, (List.range len).map X, ⟨by simp, fun hpos => ?_, fun j hj => ?_⟩, by omega, by omega⟩
    · have hs := hspot hpos
      obtain ⟨b, o, s⟩ := a
      simp only at hs
      subst hs; rfl
    · have hs := hspot (by omega)
      obtain ⟨b, o, s⟩ := a
      simp only at hs
      subst hs
      have e : eg ((List.range len).map X) j = X j := by
        unfold eg
        rw [List.getD_eq_getElem?_getD, List.getElem?_map, List.getElem?_range hj]; rfl
      rw [e]
      have key : ∀ q, q < 4 → w.cell? ⟨b, o + j * 4 + q, none⟩ = (entCells (X j))[q]? := by
        intro q hq
        have := hX j hj q hq
        rw [Go.Deep.add_add, add_plain] at this
        rw [Nat.add_assoc]; exact this
      exact ⟨key 0 (by omega), key 1 (by omega), key 2 (by omega), key 3 (by omega)⟩
end

end Go.Proofs.Qxb6601457a
