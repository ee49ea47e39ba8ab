/-
  FnSelectorTightSpanMatchesText: THE ROW.
-/
import Derived.Test.YoebvwMain5
import Derived.Test.YoebvwOpen
namespace Go.Proofs.Yoebvw
open Go.ChangeShapes Go.WideShapes Go.ChangeAt Go.RowKit
open Go.ChangeMaps (open_string shut_string)
set_option linter.unusedVariables false

theorem walk5 (bp : Int) (base : ByteArray) (ss : List ByteArray) (ao : Option Addr) (cap : Nat) (w : World) (hs : IsStrs w ao ss) :
    Calls Ebvg.prog 5 #[.int .i64 bp, .string base, .slice ao ss.length cap] w fun e w' => e = .returned (.bool true) ∧ Below w.heap.size w w' := by
  by_cases h : 1048576 < base.size + ss.length + tot ss ∨ 4096 < ss.length ∨ 1048576 < base.size + 8 * ss.length + tot ss ∨ 1073741824 < ss.length * (base.size + 8 * ss.length + tot ss) ∨ bp < 0 ∨ 1073741824 < bp ∨ ss.length = 0
  · exact (law5_out bp base ss ao cap w hs h).mono fun e w' ⟨h1, h2⟩ => ⟨h1, by rw [h2]; exact Below.refl _ _⟩
  · have h1 : ¬ 1048576 < base.size + ss.length + tot ss := fun k => h (.inl k)
    have h2 : ¬ 4096 < ss.length := fun k => h (.inr (.inl k))
    have h3 : ¬ 1048576 < base.size + 8 * ss.length + tot ss := fun k => h (.inr (.inr (.inl k)))
    have h4 : ¬ 1073741824 < ss.length * (base.size + 8 * ss.length + tot ss) := fun k => h (.inr (.inr (.inr (.inl k))))
    have h5 : ¬ bp < 0 := fun k => h (.inr (.inr (.inr (.inr (.inl k)))))
    have h6 : ¬ 1073741824 < bp := fun k => h (.inr (.inr (.inr (.inr (.inr (.inl k))))))
    have h7 : ¬ ss.length = 0 := fun k => h (.inr (.inr (.inr (.inr (.inr (.inr k))))))
    clear h
    rcases hs with h0 | ⟨b, off, rfl, hc⟩
    · exact absurd (by rw [h0]; rfl) h7
    · exact law5_main bp base ss b off cap w hc (Nat.le_of_not_lt h1) (Nat.le_of_not_lt h2) (Nat.le_of_not_lt h3) (Nat.le_of_not_lt h4) (Int.not_lt.1 h5) (Int.not_lt.1 h6) (Nat.pos_of_ne_zero h7)

set_option maxRecDepth 100000 in
theorem lifted5 (os : Os) (started : os.Started) (H : Type) (enc : TypeId × Value → H) :
    ReturnsInHanded {} Ebvg.checked os 5 .any (Rows.fnSelectorTightSpanMatchesTextSpec.pre6 enc Ebvg.prog Ebvg.f5 Rows.fnSelectorTightSpanMatchesTextRow.domain false) (Rows.fnSelectorTightSpanMatchesTextSpec.post enc Ebvg.prog Ebvg.f5 false true false false) := by
  refine returnsInHanded_of_change (C := Ebvg.checked) ownKnobs started (by kernel_rfl) Ebvg.func5
    (ChangeSpec.witness6 (enc := enc) (C := Ebvg.checked) false ⟨#[], #[.int .i64 0, .string ⟨#[]⟩, .slice none 0 0], []⟩ 8 (by kernel_rfl) (by kernel_rfl) (by kernel_rfl) (by kernel_rfl)) ?_
  intro W base args ds gs before hval0 hW hcnd _
  have hval : ∀ (j : Nat) t v, Ebvg.f5.params[j]? = some t → args[j]? = some v → Value.okWide Ebvg.prog W .any base t v := hval0
  have hW' := hW
  obtain ⟨p, q, hA0, hV, rfl, hfz, hnd⟩ := hW
  have hA : DataW.TrodAll enc Ebvg.prog W 0 (fun _ => true) true Ebvg.f5.params.toList args.toList ds p := hA0
  rw [Ebvg.params5] at hA hval
  obtain ⟨v0, vs0, d0, ds0, p0, q0, hargs, rfl, rfl, h0, r0⟩ := trodAll_cons hA
  obtain ⟨v1, vs1, d1, ds1, p1, q1, rfl, rfl, rfl, h1, r1⟩ := trodAll_cons r0
  obtain ⟨v2, vs2, d2, ds2, p2, q2, rfl, rfl, rfl, h2, r2⟩ := trodAll_cons r1
  obtain ⟨rfl, rfl, rfl⟩ := trodAll_nil r2
  obtain rfl : args = #[v0, v1, v2] := by cases args; simp_all
  obtain ⟨rfl, rfl⟩ := trodVars_none hV
  obtain ⟨bp, rfl, rfl, rfl, w0⟩ := open_int Ebvg.underlying3 (hval 0 3 v0 rfl rfl) h0
  obtain ⟨s0, rfl, rfl, rfl, w1⟩ := open_string Ebvg.underlying9 (hval 1 9 v1 rfl rfl) h1
  obtain ⟨a2, len2, cap2, rfl⟩ := okWide_slice Ebvg.underlying22 (hval 2 22 v2 rfl rfl)
  have k2 := h2
  have lt2 : ∀ x ∈ p2, x.block < W.heap.size := by obtain ⟨m, hm⟩ := k2; exact DataW.trod_lt m _ _ _ hm
  obtain ⟨ss, hlen, hs⟩ := strsIn h2
  subst hlen
  clear hA0 hval0
  refine (walk5 bp s0 ss a2 cap2 W hs).mono fun e W' ⟨he, bel⟩ => ?_
  subst he
  exact ⟨_, rfl, _, _, _, [], _, [], hW', trodAll_mk1 (shut_bool Ebvg.underlying4 _), (trodAll_mk3 (shut_int Ebvg.underlying3 w0) (shut_string Ebvg.underlying9 w1) (Below.trod laidOutAll (by kernel_rfl) (of_decide_eq_true (by kernel_rfl)) k2 bel lt2)), rfl, bel.frame _, fun h => by cases h⟩

/-- THE STATEMENT. -/
theorem selectorTightSpanMatchesText : Rows.FnSelectorTightSpanMatchesTextSaid :=
  OpenClaim.holds_of_wide 5 Ebvg.f5 rfl rfl rfl rfl rfl rfl rfl ⟨rfl, rfl, rfl, rfl, rfl⟩ rfl rfl rfl rfl rfl (by kernel_rfl) Ebvg.func5 (by kernel_rfl)
    (of_decide_eq_true (by kernel_rfl)) (by unfold Func.isWrapper; first | (rw [if_pos (by decide +kernel)]; kernel_rfl) | (rw [if_neg (by decide +kernel)]; exact ⟨rfl, rfl⟩))
    (fun os started H enc _ => lifted5 os started H enc)

end Go.Proofs.Yoebvw
