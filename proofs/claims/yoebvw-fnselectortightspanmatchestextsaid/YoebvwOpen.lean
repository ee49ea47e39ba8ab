/-
  THE ARGUMENTS, OPENED: shared by the rows of functions 4 and 5.
-/
import Derived.Test.YoebvwRows
import Derived.Test.YoebvwPlain
import Derived.ProofKit
import Derived.ShutString
import Derived.ChangeOld
import Derived.Below
import Derived.SliceStrings
namespace Go.Proofs.Yoebvw
open Go.ChangeShapes Go.WideShapes Go.ChangeAt Go.RowKit
open Go.ChangeMaps (open_string shut_string)
set_option linter.unusedVariables false

theorem ownKnobs : ownKnob Ebvg.prog.godebug = none := by kernel_rfl
theorem laidOutAll : laidOutB Ebvg.prog = true := by kernel_rfl

/-- A slice of strings that came in, as the walks want it. -/
theorem strsIn {H : Type} {enc : TypeId × Value → H} {W : World} {ao : Option Addr} {len cap : Nat} {d : DataW H} {p : List MemPlace}
    (h : DataW.Trod enc Ebvg.prog W 0 (fun _ => true) true 22 (.slice ao len cap) d p) : ∃ ss : List ByteArray, ss.length = len ∧ IsStrs W ao ss := by
  obtain ⟨fuel, hf⟩ := h
  rcases open_strings Ebvg.underlying22 Ebvg.underlying9 (by kernel_rfl) hf with ⟨hcs, _⟩ | ⟨a, l, c, ss, hcs, _, hl, hm, hz, _, hcell, _⟩
  · simp [Value.cells] at hcs
    obtain ⟨rfl, rfl, rfl⟩ := hcs
    exact ⟨[], rfl, .inl rfl⟩
  · simp [Value.cells] at hcs
    obtain ⟨rfl, rfl, rfl⟩ := hcs
    simp only [if_true] at hz
    refine ⟨ss.take len, by rw [List.length_take]; omega, ?_⟩
    by_cases h0 : len = 0
    · subst h0
      exact .inl rfl
    · obtain ⟨b, off, spot⟩ := a
      have hspot : spot = none := by simpa [Addr.add] using World.cell?_spot (hcell 0 (by omega))
      subst hspot
      refine .inr ⟨b, off, rfl, fun j hj => ?_⟩
      have hj' : j < len := by rw [List.length_take] at hj; omega
      have := hcell j (by omega)
      rw [add_plain] at this
      rw [this]
      simp [List.getD, List.getElem?_eq_getElem (show j < ss.length by omega)]

/-- A slice of ints that came in, as the walks want it. -/
theorem intsIn {H : Type} {enc : TypeId × Value → H} {W : World} {ao : Option Addr} {len cap : Nat} {d : DataW H} {p : List MemPlace}
    (h : DataW.Trod enc Ebvg.prog W 0 (fun _ => true) true 40 (.slice ao len cap) d p) : ∃ ss : List Int, ss.length = len ∧ IsInts W ao ss ∧ ∀ z ∈ ss, (Lit.int .i64 z).wf = true := by
  obtain ⟨fuel, hf⟩ := h
  rcases open_ints Ebvg.underlying40 Ebvg.underlying3 (by kernel_rfl) hf with ⟨hcs, _⟩ | ⟨a, l, c, ss, hcs, _, hl, hm, hz, _, hcell, hwz⟩
  · simp [Value.cells] at hcs
    obtain ⟨rfl, rfl, rfl⟩ := hcs
    exact ⟨[], rfl, .inl rfl, by simp⟩
  · simp [Value.cells] at hcs
    obtain ⟨rfl, rfl, rfl⟩ := hcs
    simp only [if_true] at hz
    refine ⟨ss.take len, by rw [List.length_take]; omega, ?_, fun z hz => hwz z (List.mem_of_mem_take hz)⟩
    by_cases h0 : len = 0
    · subst h0
      exact .inl rfl
    · obtain ⟨b, off, spot⟩ := a
      have hspot : spot = none := by simpa [Addr.add] using World.cell?_spot (hcell 0 (by omega))
      subst hspot
      refine .inr ⟨b, off, rfl, fun j hj => ?_⟩
      have hj' : j < len := by rw [List.length_take] at hj; omega
      have := hcell j (by omega)
      rw [add_plain] at this
      rw [this]
      simp [List.getD, List.getElem?_eq_getElem (show j < ss.length by omega)]

end Go.Proofs.Yoebvw
