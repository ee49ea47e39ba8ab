/-
  THE LEAVES: Ident.Pos (33), Ident.String (34), StringLit.End (37), StringLit.String (39).
-/
import Derived.Test.YoebvwRows
import Derived.WalkKit
import Derived.WalkSpells
import Derived.WalkLawsBesides
import Derived.Deep.QuietTactic
import Derived.BigQuiet
namespace Go.Proofs.Yoebvw
open Go.RowKit

theorem identPos (b : Nat) (p : Int) (w : World) (h1 : w.cell? ⟨b, 1, none⟩ = some (.int .i64 p)) :
    Calls Ebvg.prog 33 #[.pointer (some ⟨b, 0, none⟩)] w fun e w' => e = .returned (.int .i64 p) ∧ w' = w := by
  go_enter Ebvg.func33, Ebvg.ntmps33
  go_wp2
  go_ret
  exact ⟨rfl, rfl⟩

theorem identString (b : Nat) (s : ByteArray) (w : World) (h0 : w.cell? ⟨b, 0, none⟩ = some (.string s)) :
    Calls Ebvg.prog 34 #[.pointer (some ⟨b, 0, none⟩)] w fun e w' => e = .returned (.string s) ∧ w' = w := by
  go_enter Ebvg.func34, Ebvg.ntmps34
  go_wp2
  go_ret
  exact ⟨rfl, rfl⟩

theorem litString (b : Nat) (s : ByteArray) (w : World) (h2 : w.cell? ⟨b, 2, none⟩ = some (.string s)) :
    Calls Ebvg.prog 39 #[.pointer (some ⟨b, 0, none⟩)] w fun e w' => e = .returned (.string s) ∧ w' = w := by
  go_enter Ebvg.func39, Ebvg.ntmps39
  go_wp2
  go_ret
  exact ⟨rfl, rfl⟩

theorem litEnd (b : Nat) (s : ByteArray) (p : Int) (w : World) (h1 : w.cell? ⟨b, 1, none⟩ = some (.int .i64 p)) (h2 : w.cell? ⟨b, 2, none⟩ = some (.string s))
    (hp : 0 ≤ p) (hs : p + (s.size : Int) ≤ 9223372036854775807) :
    Calls Ebvg.prog 37 #[.pointer (some ⟨b, 0, none⟩)] w fun e w' => e = .returned (.int .i64 (p + (s.size : Int))) ∧ ∃ n, w' = w.drewN n := by
  go_enter Ebvg.func37, Ebvg.ntmps37
  go_wp2_with fail
  go_quiet (fail)
  go_wp2_with fail
  go_ret
  exact ⟨rfl, nq, rfl⟩

end Go.Proofs.Yoebvw
