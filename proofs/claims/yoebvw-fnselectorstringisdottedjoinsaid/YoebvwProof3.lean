/-
  FnSelectorStringIsDottedJoin: THE ROW.
-/
import Derived.Test.YoebvwMain3
import Derived.ProofKit
import Derived.ShutString
import Derived.ChangeOld
import Derived.Below
import Derived.SliceStrings
namespace Go.Proofs.Yoebvw
open Go.ChangeShapes Go.WideShapes Go.ChangeAt Go.RowKit
open Go.ChangeMaps (open_string shut_string)
set_option linter.unusedVariables false

theorem own : ownKnob Ebvg.prog.godebug = none := by kernel_rfl
theorem laidOut : laidOutB Ebvg.prog = true := by kernel_rfl

theorem walk3 (base : ByteArray) (ss : List ByteArray) (ao : Option Addr) (cap : Nat) (w : World) (hs : IsStrs w ao ss) :
    Calls Ebvg.prog 3 #[.string base, .slice ao ss.length cap] w fun e w' => e = .returned (.bool true) ∧ Below w.heap.size w w' := by
  by_cases h : 1048576 < base.size + ss.length + tot ss ∨ 4096 < ss.length ∨ 1048576 < base.size + 8 * ss.length + tot ss ∨ 1073741824 < ss.length * (base.size + 8 * ss.length + tot ss) ∨ ss.length = 0
  · exact (law3_out base ss ao cap w hs h).mono fun e w' ⟨h1, h2⟩ => ⟨h1, by rw [h2]; exact Below.refl _ _⟩
  · have h1 : ¬ 1048576 < base.size + ss.length + tot ss := fun k => h (.inl k)
    have h2 : ¬ 4096 < ss.length := fun k => h (.inr (.inl k))
    have h3 : ¬ 1048576 < base.size + 8 * ss.length + tot ss := fun k => h (.inr (.inr (.inl k)))
    have h4 : ¬ 1073741824 < ss.length * (base.size + 8 * ss.length + tot ss) := fun k => h (.inr (.inr (.inr (.inl k))))
    have h5 : ¬ ss.length = 0 := fun k => h (.inr (.inr (.inr (.inr k))))
    rcases hs with h0 | ⟨b, off, rfl, hc⟩
    · exact absurd (by rw [h0]; rfl) h5
    · exact law3_main base ss b off cap w hc (Nat.le_of_not_lt h1) (Nat.le_of_not_lt h2) (Nat.le_of_not_lt h3) (Nat.le_of_not_lt h4) (Nat.pos_of_ne_zero h5)

/-- A slice of strings that came in, as the walks want it. -/
theorem strs_in {H : Type} {enc : TypeId × Value → H} {W : World} {ao : Option Addr} {len cap : Nat} {d : DataW H} {p : List MemPlace}
    (h : DataW.Trod enc Ebvg.prog W 0 (fun _ => true) true 22 (.slice ao len cap) d p) : ∃ ss : List ByteArray, ss.length = len ∧ IsStrs W ao ss := by
  obtain ⟨fuel, hf⟩ := h
  rcases open_strings Ebvg.underlying22 Ebvg.underlying9 (by kernel_rfl) hf with ⟨hcs, _⟩ | ⟨a, l, c, ss, hcs, _, hl, hm, hz, _, hcell, _⟩
  · simp [Value.cells] at hcs
    obtain ⟨rfl, rfl, rfl⟩ := hcs
    exact ⟨[], rfl, .inl rfl⟩
  · simp [Value.cells] at hcs
    obtain ⟨rfl, rfl, rfl⟩ := hcs
    simp only [if_true] at hz
    refine ⟨ss.take len, by rw [List.length_take]; omega, ?_⟩
    by_cases h0 : len = 0
    · subst h0
      exact .inl rfl
    · obtain ⟨b, off, spot⟩ := a
      have hspot : spot = none := by simpa [Addr.add] using World.cell?_spot (hcell 0 (by omega))
      subst hspot
      refine .inr ⟨b, off, rfl, fun j hj => ?_⟩
      have hj' : j < len := by rw [List.length_take] at hj; omega
      have := hcell j (by omega)
      rw [add_plain] at this
      rw [this]
      simp [List.getD, List.getElem?_eq_getElem (show j < ss.length by omega)]

set_option maxRecDepth 100000 in
theorem lifted3 (os : Os) (started : os.Started) (H : Type) (enc : TypeId × Value → H) :
    ReturnsInHanded {} Ebvg.checked os 3 .any (Rows.fnSelectorStringIsDottedJoinSpec.pre6 enc Ebvg.prog Ebvg.f3 Rows.fnSelectorStringIsDottedJoinRow.domain false) (Rows.fnSelectorStringIsDottedJoinSpec.post enc Ebvg.prog Ebvg.f3 false true false false) := by
  refine returnsInHanded_of_change (C := Ebvg.checked) own started (by kernel_rfl) Ebvg.func3
    (ChangeSpec.witness6 (enc := enc) (C := Ebvg.checked) false ⟨#[], #[.string ⟨#[]⟩, .slice none 0 0], []⟩ 8 (by kernel_rfl) (by kernel_rfl) (by kernel_rfl) (by kernel_rfl)) ?_
  intro W base args ds gs before hval0 hW hcnd _
  have hval : ∀ (j : Nat) t v, Ebvg.f3.params[j]? = some t → args[j]? = some v → Value.okWide Ebvg.prog W .any base t v := hval0
  have hW' := hW
  obtain ⟨p, q, hA0, hV, rfl, hfz, hnd⟩ := hW
  have hA : DataW.TrodAll enc Ebvg.prog W 0 (fun _ => true) true Ebvg.f3.params.toList args.toList ds p := hA0
  rw [Ebvg.params3] at hA hval
  obtain ⟨v0, vs0, d0, ds0, p0, q0, hargs, rfl, rfl, h0, r0⟩ := trodAll_cons hA
  obtain ⟨v1, vs1, d1, ds1, p1, q1, rfl, rfl, rfl, h1, r1⟩ := trodAll_cons r0
  obtain ⟨rfl, rfl, rfl⟩ := trodAll_nil r1
  obtain rfl : args = #[v0, v1] := by cases args; simp_all
  obtain ⟨rfl, rfl⟩ := trodVars_none hV
  obtain ⟨s0, rfl, rfl, rfl, w0⟩ := open_string Ebvg.underlying9 (hval 0 9 v0 rfl rfl) h0
  obtain ⟨a1, len1, cap1, rfl⟩ := okWide_slice Ebvg.underlying22 (hval 1 22 v1 rfl rfl)
  have k1 := h1
  have lt1 : ∀ x ∈ p1, x.block < W.heap.size := by obtain ⟨m, hm⟩ := k1; exact DataW.trod_lt m _ _ _ hm
  obtain ⟨ss, hlen, hs⟩ := strs_in h1
  subst hlen
  clear hA0 hval0
  refine (walk3 s0 ss a1 cap1 W hs).mono fun e W' ⟨he, bel⟩ => ?_
  subst he
  exact ⟨_, rfl, _, _, _, [], _, [], hW', trodAll_mk1 (shut_bool Ebvg.underlying4 _), (trodAll_mk2 (shut_string Ebvg.underlying9 w0) (Below.trod laidOut (by kernel_rfl) (of_decide_eq_true (by kernel_rfl)) k1 bel lt1)), rfl, bel.frame _, fun h => by cases h⟩

/-- THE STATEMENT. -/
theorem selectorStringIsDottedJoin : Rows.FnSelectorStringIsDottedJoinSaid :=
  OpenClaim.holds_of_wide 3 Ebvg.f3 rfl rfl rfl rfl rfl rfl rfl ⟨rfl, rfl, rfl, rfl, rfl⟩ rfl rfl rfl rfl rfl (by kernel_rfl) Ebvg.func3 (by kernel_rfl)
    (of_decide_eq_true (by kernel_rfl)) (by unfold Func.isWrapper; first | (rw [if_pos (by decide +kernel)]; kernel_rfl) | (rw [if_neg (by decide +kernel)]; exact ⟨rfl, rfl⟩))
    (fun os started H enc _ => lifted3 os started H enc)

end Go.Proofs.Yoebvw
