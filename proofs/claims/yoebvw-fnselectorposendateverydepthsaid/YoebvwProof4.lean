/-
  FnSelectorPosEndAtEveryDepth: THE ROW.
-/
import Derived.Test.YoebvwMain4
import Derived.Test.YoebvwOpen
namespace Go.Proofs.Yoebvw
open Go.ChangeShapes Go.WideShapes Go.ChangeAt Go.RowKit
open Go.ChangeMaps (open_string shut_string)
set_option linter.unusedVariables false

theorem walk4 (bp : Int) (base : ByteArray) (ss : List ByteArray) (zs : List Int) (ao : Option Addr) (cap : Nat) (ap : Option Addr) (cap2 : Nat) (w : World) (hs : IsStrs w ao ss) (hz : IsInts w ap zs) :
    Calls Ebvg.prog 4 #[.int .i64 bp, .string base, .slice ao ss.length cap, .slice ap zs.length cap2] w fun e w' => e = .returned (.bool true) ∧ Below w.heap.size w w' := by
  by_cases h : 1048576 < base.size + ss.length + tot ss + zs.length ∨ 4096 < ss.length ∨ 4096 < zs.length ∨ 1048576 < base.size + 8 * ss.length + tot ss + 8 * zs.length ∨ bp < 0 ∨ 1073741824 < bp
  · exact (law4_out bp base ss ao cap ap zs.length cap2 w hs h).mono fun e w' ⟨h1, h2⟩ => ⟨h1, by rw [h2]; exact Below.refl _ _⟩
  · have h1 : ¬ 1048576 < base.size + ss.length + tot ss + zs.length := fun k => h (.inl k)
    have h2 : ¬ 4096 < ss.length := fun k => h (.inr (.inl k))
    have h3 : ¬ 4096 < zs.length := fun k => h (.inr (.inr (.inl k)))
    have h4 : ¬ 1048576 < base.size + 8 * ss.length + tot ss + 8 * zs.length := fun k => h (.inr (.inr (.inr (.inl k))))
    have h5 : ¬ bp < 0 := fun k => h (.inr (.inr (.inr (.inr (.inl k)))))
    have h6 : ¬ 1073741824 < bp := fun k => h (.inr (.inr (.inr (.inr (.inr k)))))
    clear h
    by_cases h7 : ¬ zs.length = ss.length ∨ ss.length = 0
    · exact (law4_mid bp base ss zs ao cap ap cap2 w hs hz (by omega) (by omega) (by omega) (by omega) (by omega) (by omega) h7).mono fun e w' ⟨h1, h2⟩ => ⟨h1, by rw [← h2]; exact Below.refl _ _⟩
    · have h8 : zs.length = ss.length := by omega
      have h9 : 0 < ss.length := by omega
      rcases hs with h0 | ⟨b, off, rfl, hc⟩
      · exact absurd (by rw [h0]; rfl) (Nat.ne_of_gt h9)
      · rcases hz with h0 | ⟨b2, off2, rfl, hci⟩
        · exact absurd (by rw [← h8, h0]; rfl) (Nat.ne_of_gt h9)
        · exact law4_main bp base ss zs b off cap b2 off2 cap2 w hc hci (by omega) (by omega) (by omega) (by omega) (by omega) h8 h9

set_option maxRecDepth 100000 in
theorem lifted4 (os : Os) (started : os.Started) (H : Type) (enc : TypeId × Value → H) :
    ReturnsInHanded {} Ebvg.checked os 4 .any (Rows.fnSelectorPosEndAtEveryDepthSpec.pre6 enc Ebvg.prog Ebvg.f4 Rows.fnSelectorPosEndAtEveryDepthRow.domain false) (Rows.fnSelectorPosEndAtEveryDepthSpec.post enc Ebvg.prog Ebvg.f4 false true false false) := by
  refine returnsInHanded_of_change (C := Ebvg.checked) ownKnobs started (by kernel_rfl) Ebvg.func4
    (ChangeSpec.witness6 (enc := enc) (C := Ebvg.checked) false ⟨#[], #[.int .i64 0, .string ⟨#[]⟩, .slice none 0 0, .slice none 0 0], []⟩ 8 (by kernel_rfl) (by kernel_rfl) (by kernel_rfl) (by kernel_rfl)) ?_
  intro W base args ds gs before hval0 hW hcnd _
  have hval : ∀ (j : Nat) t v, Ebvg.f4.params[j]? = some t → args[j]? = some v → Value.okWide Ebvg.prog W .any base t v := hval0
  have hW' := hW
  obtain ⟨p, q, hA0, hV, rfl, hfz, hnd⟩ := hW
  have hA : DataW.TrodAll enc Ebvg.prog W 0 (fun _ => true) true Ebvg.f4.params.toList args.toList ds p := hA0
  rw [Ebvg.params4] at hA hval
  obtain ⟨v0, vs0, d0, ds0, p0, q0, hargs, rfl, rfl, h0, r0⟩ := trodAll_cons hA
  obtain ⟨v1, vs1, d1, ds1, p1, q1, rfl, rfl, rfl, h1, r1⟩ := trodAll_cons r0
  obtain ⟨v2, vs2, d2, ds2, p2, q2, rfl, rfl, rfl, h2, r2⟩ := trodAll_cons r1
  obtain ⟨v3, vs3, d3, ds3, p3, q3, rfl, rfl, rfl, h3, r3⟩ := trodAll_cons r2
  obtain ⟨rfl, rfl, rfl⟩ := trodAll_nil r3
  obtain rfl : args = #[v0, v1, v2, v3] := by cases args; simp_all
  obtain ⟨rfl, rfl⟩ := trodVars_none hV
  obtain ⟨bp, rfl, rfl, rfl, w0⟩ := open_int Ebvg.underlying3 (hval 0 3 v0 rfl rfl) h0
  obtain ⟨s0, rfl, rfl, rfl, w1⟩ := open_string Ebvg.underlying9 (hval 1 9 v1 rfl rfl) h1
  obtain ⟨a2, len2, cap2, rfl⟩ := okWide_slice Ebvg.underlying22 (hval 2 22 v2 rfl rfl)
  obtain ⟨a3, len3, cap3, rfl⟩ := okWide_slice Ebvg.underlying40 (hval 3 40 v3 rfl rfl)
  have k2 := h2
  have k3 := h3
  have lt2 : ∀ x ∈ p2, x.block < W.heap.size := by obtain ⟨m, hm⟩ := k2; exact DataW.trod_lt m _ _ _ hm
  have lt3 : ∀ x ∈ p3, x.block < W.heap.size := by obtain ⟨m, hm⟩ := k3; exact DataW.trod_lt m _ _ _ hm
  obtain ⟨ss, hlen, hs⟩ := strsIn h2
  subst hlen
  obtain ⟨zs, hlen, hz, _⟩ := intsIn h3
  subst hlen
  clear hA0 hval0
  refine (walk4 bp s0 ss zs a2 cap2 a3 cap3 W hs hz).mono fun e W' ⟨he, bel⟩ => ?_
  subst he
  exact ⟨_, rfl, _, _, _, [], _, [], hW', trodAll_mk1 (shut_bool Ebvg.underlying4 _), (trodAll_mk4 (shut_int Ebvg.underlying3 w0) (shut_string Ebvg.underlying9 w1) (Below.trod laidOutAll (by kernel_rfl) (of_decide_eq_true (by kernel_rfl)) k2 bel lt2) (Below.trod laidOutAll (by kernel_rfl) (of_decide_eq_true (by kernel_rfl)) k3 bel lt3)), rfl, bel.frame _, fun h => by cases h⟩

/-- THE STATEMENT. -/
theorem selectorPosEndAtEveryDepth : Rows.FnSelectorPosEndAtEveryDepthSaid :=
  OpenClaim.holds_of_wide 4 Ebvg.f4 rfl rfl rfl rfl rfl rfl rfl ⟨rfl, rfl, rfl, rfl, rfl⟩ rfl rfl rfl rfl rfl (by kernel_rfl) Ebvg.func4 (by kernel_rfl)
    (of_decide_eq_true (by kernel_rfl)) (by unfold Func.isWrapper; first | (rw [if_pos (by decide +kernel)]; kernel_rfl) | (rw [if_neg (by decide +kernel)]; exact ⟨rfl, rfl⟩))
    (fun os started H enc _ => lifted4 os started H enc)

end Go.Proofs.Yoebvw
