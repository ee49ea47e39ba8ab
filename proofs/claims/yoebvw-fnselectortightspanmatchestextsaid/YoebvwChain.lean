/-
  THE CHAIN IN MEMORY, and the three methods of SelectorExpr over it: Pos (13), End (14), String (9).
-/
import Derived.Test.YoebvwLeaf
namespace Go.Proofs.Yoebvw
open Go.RowKit

/-- WHAT LIES BEHIND AN INTERFACE VALUE 'v' OF TYPE Expr: an Ident (name, position), or, for a list of selectors (THE LAST FIRST), a SelectorExpr over the chain of the others. -/
def ExprAt (w : World) (name : ByteArray) (pos : Int) : List (ByteArray × Int) → Value → Prop
  | [], v => ∃ b, v = .iface 27 (.pointer (some ⟨b, 0, none⟩)) ∧ w.cell? ⟨b, 0, none⟩ = some (.string name) ∧ w.cell? ⟨b, 1, none⟩ = some (.int .i64 pos)
  | (s, p) :: xs, v => ∃ b c u, v = .iface 26 (.pointer (some ⟨b, 0, none⟩)) ∧ w.cell? ⟨b, 0, none⟩ = some u ∧ w.cell? ⟨b, 1, none⟩ = some (.iface 31 (.pointer (some ⟨c, 0, none⟩))) ∧
      w.cell? ⟨c, 1, none⟩ = some (.int .i64 p) ∧ w.cell? ⟨c, 2, none⟩ = some (.string s) ∧ ExprAt w name pos xs u

/-- A chain stays where every cell that is there stays. -/
theorem ExprAt.stays {w w' : World} {name : ByteArray} {pos : Int} (h : ∀ a x, w.cell? a = some x → w'.cell? a = some x) :
    ∀ {xs : List (ByteArray × Int)} {v : Value}, ExprAt w name pos xs v → ExprAt w' name pos xs v
  | [], _, ⟨b, hv, h0, h1⟩ => ⟨b, hv, h _ _ h0, h _ _ h1⟩
  | (_, _) :: _, _, ⟨b, c, u, hv, h0, h1, h2, h3, hx⟩ => ⟨b, c, u, hv, h _ _ h0, h _ _ h1, h _ _ h2, h _ _ h3, ExprAt.stays h hx⟩

/-- What the chain prints. -/
def strOf (name : ByteArray) : List (ByteArray × Int) → ByteArray
  | [] => name
  | (s, _) :: xs => strOf name xs ++ ⟨#[46]⟩ ++ s

theorem m27Pos (a : Addr) (w : World) : (method 163 27 (.pointer (some a)) "Pos").run Ebvg.prog w = .ok (33, .pointer (some a)) w := by kernel_rfl
theorem m26Pos (a : Addr) (w : World) : (method 163 26 (.pointer (some a)) "Pos").run Ebvg.prog w = .ok (13, .pointer (some a)) w := by kernel_rfl
theorem m31End (a : Addr) (w : World) : (method 163 31 (.pointer (some a)) "End").run Ebvg.prog w = .ok (37, .pointer (some a)) w := by kernel_rfl
theorem m27Str (a : Addr) (w : World) : (method 163 27 (.pointer (some a)) "String").run Ebvg.prog w = .ok (34, .pointer (some a)) w := by kernel_rfl
theorem m26Str (a : Addr) (w : World) : (method 163 26 (.pointer (some a)) "String").run Ebvg.prog w = .ok (9, .pointer (some a)) w := by kernel_rfl
theorem m31Str (a : Addr) (w : World) : (method 163 31 (.pointer (some a)) "String").run Ebvg.prog w = .ok (39, .pointer (some a)) w := by kernel_rfl

theorem selPos (name : ByteArray) (pos : Int) : ∀ (xs : List (ByteArray × Int)) (b : Nat) (w : World), ExprAt w name pos xs (.iface 26 (.pointer (some ⟨b, 0, none⟩))) →
    Calls Ebvg.prog 13 #[.pointer (some ⟨b, 0, none⟩)] w fun e w' => e = .returned (.int .i64 pos) ∧ w' = w := by
  intro xs
  induction xs with
  | nil => intro b w h; obtain ⟨b', hv, _⟩ := h; simp at hv
  | cons x xs ih =>
    obtain ⟨s, p⟩ := x
    intro b w h
    obtain ⟨b', c, u, hv, h0, h1, h2, h3, hx⟩ := h
    simp at hv
    subst hv
    cases xs with
    | nil =>
      obtain ⟨bi, rfl, g0, g1⟩ := hx
      have hm := m27Pos
      clear ih
      go_enter Ebvg.func13, Ebvg.ntmps13
      go_wp2_with (go_at_call 33; refine (identPos _ _ _ g1).mono ?_; rintro e w' ⟨rfl, rfl⟩)
      go_ret
      exact ⟨rfl, rfl⟩
    | cons y ys =>
      have hx' := hx
      obtain ⟨b2, c2, u2, rfl, _⟩ := hx
      have IH : Hid (∀ (b : Nat) (w : World), ExprAt w name pos (y :: ys) (.iface 26 (.pointer (some ⟨b, 0, none⟩))) →
        Calls Ebvg.prog 13 #[.pointer (some ⟨b, 0, none⟩)] w fun e w' => e = .returned (.int .i64 pos) ∧ w' = w) := ih
      have HX : Hid (ExprAt w name pos (y :: ys) (.iface 26 (.pointer (some ⟨b2, 0, none⟩)))) := hx'
      have hm := m26Pos
      clear ih hx'
      go_enter Ebvg.func13, Ebvg.ntmps13
      go_wp2_with (go_at_call 13; refine (IH.out _ _ HX.out).mono ?_; rintro e w' ⟨rfl, rfl⟩)
      go_ret
      exact ⟨rfl, rfl⟩

theorem selEnd (name : ByteArray) (pos : Int) (xs : List (ByteArray × Int)) (s : ByteArray) (p : Int) (b : Nat) (w : World) (h : ExprAt w name pos ((s, p) :: xs) (.iface 26 (.pointer (some ⟨b, 0, none⟩))))
    (hp : 0 ≤ p) (hs : p + (s.size : Int) ≤ 9223372036854775807) :
    Calls Ebvg.prog 14 #[.pointer (some ⟨b, 0, none⟩)] w fun e w' => e = .returned (.int .i64 (p + (s.size : Int))) ∧ ∃ n, w' = w.drewN n := by
  obtain ⟨b', c, u, hv, h0, h1, h2, h3, hx⟩ := h
  simp at hv
  subst hv
  have hm := m31End
  clear hx h0
  go_enter Ebvg.func14, Ebvg.ntmps14
  go_wp2_with (go_at_call 37; refine (litEnd _ _ _ _ h2 h3 hp hs).mono ?_; rintro e w' ⟨rfl, nq, rfl⟩)
  go_ret
  exact ⟨rfl, _, rfl⟩

end Go.Proofs.Yoebvw
