/-
  THE WALKS of the four impl functions and of unicode's behind them within Latin-1, where the cell of unicode.properties at r is known. Condition: 0 <= r <= 255.
-/
import Derived.Test.YtligkeplkillkaaDoorCat
import Derived.WalkKit
import Derived.Handy
namespace Go.Proofs.YtligkeplkillkaaDoor
set_option linter.unusedVariables false
theorem isNumber_true (r : Nat) (z : Int) (w : World) (hr : (r : Int) ≤ 255) (hc : w.cell? ⟨0, r, none⟩ = some (.int .u8 z)) (hz : (bits .and .u8 z 4 != 0) = true) :
    Calls Tryd.prog 9 #[.int .i32 r] w fun e w' => e = .returned (.bool true) ∧ w = w' := by
  go_enter Tryd.func9, Tryd.ntmps9
  go_wp2
  go_ret
  exact ⟨rfl, rfl⟩
theorem isNumber_false (r : Nat) (z : Int) (w : World) (hr : (r : Int) ≤ 255) (hc : w.cell? ⟨0, r, none⟩ = some (.int .u8 z)) (hz : (bits .and .u8 z 4 != 0) = false) :
    Calls Tryd.prog 9 #[.int .i32 r] w fun e w' => e = .returned (.bool false) ∧ w = w' := by
  go_enter Tryd.func9, Tryd.ntmps9
  go_wp2
  go_ret
  exact ⟨rfl, rfl⟩
theorem isSymbol_true (r : Nat) (z : Int) (w : World) (hr : (r : Int) ≤ 255) (hc : w.cell? ⟨0, r, none⟩ = some (.int .u8 z)) (hz : (bits .and .u8 z 8 != 0) = true) :
    Calls Tryd.prog 10 #[.int .i32 r] w fun e w' => e = .returned (.bool true) ∧ w = w' := by
  go_enter Tryd.func10, Tryd.ntmps10
  go_wp2
  go_ret
  exact ⟨rfl, rfl⟩
theorem isSymbol_false (r : Nat) (z : Int) (w : World) (hr : (r : Int) ≤ 255) (hc : w.cell? ⟨0, r, none⟩ = some (.int .u8 z)) (hz : (bits .and .u8 z 8 != 0) = false) :
    Calls Tryd.prog 10 #[.int .i32 r] w fun e w' => e = .returned (.bool false) ∧ w = w' := by
  go_enter Tryd.func10, Tryd.ntmps10
  go_wp2
  go_ret
  exact ⟨rfl, rfl⟩
theorem isLower_true (r : Nat) (z : Int) (w : World) (hr : (r : Int) ≤ 255) (hc : w.cell? ⟨0, r, none⟩ = some (.int .u8 z)) (hz : (bits .and .u8 z 96 == 64) = true) :
    Calls Tryd.prog 11 #[.int .i32 r] w fun e w' => e = .returned (.bool true) ∧ w = w' := by
  go_enter Tryd.func11, Tryd.ntmps11
  go_wp2
  go_ret
  exact ⟨rfl, rfl⟩
theorem isLower_false (r : Nat) (z : Int) (w : World) (hr : (r : Int) ≤ 255) (hc : w.cell? ⟨0, r, none⟩ = some (.int .u8 z)) (hz : (bits .and .u8 z 96 == 64) = false) :
    Calls Tryd.prog 11 #[.int .i32 r] w fun e w' => e = .returned (.bool false) ∧ w = w' := by
  go_enter Tryd.func11, Tryd.ntmps11
  go_wp2
  go_ret
  exact ⟨rfl, rfl⟩
theorem isGraphic_true (r : Nat) (z : Int) (w : World) (hr : (r : Int) ≤ 255) (hc : w.cell? ⟨0, r, none⟩ = some (.int .u8 z)) (hz : (bits .and .u8 z 144 != 0) = true) :
    Calls Tryd.prog 12 #[.int .i32 r] w fun e w' => e = .returned (.bool true) ∧ w = w' := by
  go_enter Tryd.func12, Tryd.ntmps12
  go_wp2
  go_ret
  exact ⟨rfl, rfl⟩
theorem isGraphic_false (r : Nat) (z : Int) (w : World) (hr : (r : Int) ≤ 255) (hc : w.cell? ⟨0, r, none⟩ = some (.int .u8 z)) (hz : (bits .and .u8 z 144 != 0) = false) :
    Calls Tryd.prog 12 #[.int .i32 r] w fun e w' => e = .returned (.bool false) ∧ w = w' := by
  go_enter Tryd.func12, Tryd.ntmps12
  go_wp2
  go_ret
  exact ⟨rfl, rfl⟩
end Go.Proofs.YtligkeplkillkaaDoor
