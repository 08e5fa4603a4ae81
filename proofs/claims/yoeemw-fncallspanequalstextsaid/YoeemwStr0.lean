/-
  (*Ident).String (44), (Pos).IsValid (18).
-/
import Derived.Test.YoeemwArgs
namespace Go.Proofs.Yoeemw
open Go.RowKit

theorem meth_str27 (b : Nat) (w : World) : (method 171 27 (.pointer (some ⟨b, 0, none⟩)) "String").run Eemg.prog w = .ok (44, .pointer (some ⟨b, 0, none⟩)) w := by kernel_rfl

theorem ident44 (s : ByteArray) (b : Nat) (w : World) (h : w.cell? ⟨b, 0, none⟩ = some (.string s)) :
    Calls Eemg.prog 44 #[.pointer (some ⟨b, 0, none⟩)] w fun e w' => e = .returned (.string s) ∧ w' = w := by
  go_enter Eemg.func44, Eemg.ntmps44
  go_wp2
  go_ret
  exact ⟨rfl, rfl⟩

theorem valid18 (p : Int) (w : World) :
    Calls Eemg.prog 18 #[.int .i64 p] w fun e w' => e = .returned (.bool (p != 0)) ∧ w' = w := by
  go_enter Eemg.func18, Eemg.ntmps18
  go_wp2
  go_ret
  exact ⟨rfl, rfl⟩
end Go.Proofs.Yoeemw
