/-
  THE WALKS of the four laws: outside Latin-1 and inside it, one theorem a way; each returns true and leaves what lay in memory as it lay. Conditions: the cell of unicode.properties at r is known, and its bit says what the category says.
-/
import Derived.Test.YtligkeplkillkaaDoorImpl
import Derived.WalkKit
import Derived.WalkSpells
import Derived.Handy
import Derived.Lib.Hide
namespace Go.Proofs.YtligkeplkillkaaDoor
open Go.RowKit
theorem latinF_no (r : Int) (w : World) (h : ¬ (0 ≤ r ∧ r ≤ 255)) : Calls Tryd.prog 8 #[.int .i32 r] w fun e w' => e = .returned (.bool false) ∧ w = w' := by
  have e : inB 0 255 r = false := by
    cases hb : inB 0 255 r with
    | false => rfl
    | true => exact absurd (by simpa [inB] using hb) h
  exact e ▸ latinF_any r w
theorem latinF_yes (r : Int) (w : World) (h0 : 0 ≤ r) (h1 : r ≤ 255) : Calls Tryd.prog 8 #[.int .i32 r] w fun e w' => e = .returned (.bool true) ∧ w = w' := by
  have e : inB 0 255 r = true := by simp [inB, h0, h1]
  exact e ▸ latinF_any r w
theorem number_out (r : Int) (w : World) (h : ¬ (0 ≤ r ∧ r ≤ 255)) : Calls Tryd.prog 3 #[.int .i32 r] w fun e w' => e = .returned (.bool true) ∧ Below w.heap.size w w' := by
  have H := Lib.hid h; clear h
  obtain ⟨c, hc⟩ : ∃ c, cat r = c := ⟨_, rfl⟩
  have HC := Lib.hid hc; clear hc
  go_enter Tryd.func3, Tryd.ntmps3
  go_wp2_with fail
  refine (cat_at r c HC.out _).mono ?_
  rintro e w1 ⟨rfl, hb⟩
  have HB := Lib.hid hb; clear hb
  go_wp2_with fail
  refine (latinF_no r _ H.out).mono ?_
  rintro e w2 ⟨rfl, rfl⟩
  go_wp2_with fail
  go_ret
  exact ⟨rfl, HB.out⟩
theorem symbol_out (r : Int) (w : World) (h : ¬ (0 ≤ r ∧ r ≤ 255)) : Calls Tryd.prog 4 #[.int .i32 r] w fun e w' => e = .returned (.bool true) ∧ Below w.heap.size w w' := by
  have H := Lib.hid h; clear h
  obtain ⟨c, hc⟩ : ∃ c, cat r = c := ⟨_, rfl⟩
  have HC := Lib.hid hc; clear hc
  go_enter Tryd.func4, Tryd.ntmps4
  go_wp2_with fail
  refine (cat_at r c HC.out _).mono ?_
  rintro e w1 ⟨rfl, hb⟩
  have HB := Lib.hid hb; clear hb
  go_wp2_with fail
  refine (latinF_no r _ H.out).mono ?_
  rintro e w2 ⟨rfl, rfl⟩
  go_wp2_with fail
  go_ret
  exact ⟨rfl, HB.out⟩
theorem graphic_out (r : Int) (w : World) (h : ¬ (0 ≤ r ∧ r ≤ 255)) : Calls Tryd.prog 6 #[.int .i32 r] w fun e w' => e = .returned (.bool true) ∧ Below w.heap.size w w' := by
  have H := Lib.hid h; clear h
  obtain ⟨c, hc⟩ : ∃ c, cat r = c := ⟨_, rfl⟩
  have HC := Lib.hid hc; clear hc
  go_enter Tryd.func6, Tryd.ntmps6
  go_wp2_with fail
  refine (cat_at r c HC.out _).mono ?_
  rintro e w1 ⟨rfl, hb⟩
  have HB := Lib.hid hb; clear hb
  go_wp2_with fail
  refine (latinF_no r _ H.out).mono ?_
  rintro e w2 ⟨rfl, rfl⟩
  go_wp2_with fail
  go_ret
  exact ⟨rfl, HB.out⟩
theorem lower_out (r : Int) (w : World) (h : ¬ (0 ≤ r ∧ r ≤ 255)) : Calls Tryd.prog 5 #[.int .i32 r] w fun e w' => e = .returned (.bool true) ∧ Below w.heap.size w w' := by
  have H := Lib.hid h; clear h
  go_enter Tryd.func5, Tryd.ntmps5
  go_wp2_with fail
  refine (latinF_no r _ H.out).mono ?_
  rintro e w2 ⟨rfl, rfl⟩
  go_wp2_with fail
  go_ret
  exact ⟨rfl, Below.refl _ _⟩
theorem number_a (r : Nat) (z c : Int) (w : World) (hr : (r : Int) ≤ 255) (hc : w.cell? ⟨0, r, none⟩ = some (.int .u8 z)) (hz : (bits .and .u8 z 4 != 0) = true) (hcat : Hid (cat r = c))
    (q0 : (c == 13) = true) : Calls Tryd.prog 3 #[.int .i32 r] w fun e w' => e = .returned (.bool true) ∧ Below w.heap.size w w' := by
  have HZ := Lib.hid hz; clear hz
  have HK := Lib.hid hc; clear hc
  go_enter Tryd.func3, Tryd.ntmps3
  go_wp2_with fail
  refine (cat_at r c hcat.out _).mono ?_
  rintro e w1 ⟨rfl, hb⟩
  have HB := Lib.hid hb; clear hb
  go_wp2_with fail
  refine (latinF_yes r _ (by omega) hr).mono ?_
  rintro e w2 ⟨rfl, rfl⟩
  go_wp2_with fail
  refine (isNumber_true r z _ hr (cell_later HB.out HK.out) HZ.out).mono ?_
  rintro e w2 ⟨rfl, rfl⟩
  go_wp2_with fail
  go_ret
  exact ⟨rfl, HB.out⟩
theorem number_b (r : Nat) (z c : Int) (w : World) (hr : (r : Int) ≤ 255) (hc : w.cell? ⟨0, r, none⟩ = some (.int .u8 z)) (hz : (bits .and .u8 z 4 != 0) = true) (hcat : Hid (cat r = c))
    (q0 : (c == 13) = false) (q1 : (c == 14) = true) : Calls Tryd.prog 3 #[.int .i32 r] w fun e w' => e = .returned (.bool true) ∧ Below w.heap.size w w' := by
  have HZ := Lib.hid hz; clear hz
  have HK := Lib.hid hc; clear hc
  go_enter Tryd.func3, Tryd.ntmps3
  go_wp2_with fail
  refine (cat_at r c hcat.out _).mono ?_
  rintro e w1 ⟨rfl, hb⟩
  have HB := Lib.hid hb; clear hb
  go_wp2_with fail
  refine (latinF_yes r _ (by omega) hr).mono ?_
  rintro e w2 ⟨rfl, rfl⟩
  go_wp2_with fail
  refine (isNumber_true r z _ hr (cell_later HB.out HK.out) HZ.out).mono ?_
  rintro e w2 ⟨rfl, rfl⟩
  go_wp2_with fail
  go_ret
  exact ⟨rfl, HB.out⟩
theorem number_c (r : Nat) (z c : Int) (w : World) (hr : (r : Int) ≤ 255) (hc : w.cell? ⟨0, r, none⟩ = some (.int .u8 z)) (hz : (bits .and .u8 z 4 != 0) = true) (hcat : Hid (cat r = c))
    (q0 : (c == 13) = false) (q1 : (c == 14) = false) (q2 : (c == 15) = true) : Calls Tryd.prog 3 #[.int .i32 r] w fun e w' => e = .returned (.bool true) ∧ Below w.heap.size w w' := by
  have HZ := Lib.hid hz; clear hz
  have HK := Lib.hid hc; clear hc
  go_enter Tryd.func3, Tryd.ntmps3
  go_wp2_with fail
  refine (cat_at r c hcat.out _).mono ?_
  rintro e w1 ⟨rfl, hb⟩
  have HB := Lib.hid hb; clear hb
  go_wp2_with fail
  refine (latinF_yes r _ (by omega) hr).mono ?_
  rintro e w2 ⟨rfl, rfl⟩
  go_wp2_with fail
  refine (isNumber_true r z _ hr (cell_later HB.out HK.out) HZ.out).mono ?_
  rintro e w2 ⟨rfl, rfl⟩
  go_wp2_with fail
  go_ret
  exact ⟨rfl, HB.out⟩
theorem number_d (r : Nat) (z c : Int) (w : World) (hr : (r : Int) ≤ 255) (hc : w.cell? ⟨0, r, none⟩ = some (.int .u8 z)) (hz : (bits .and .u8 z 4 != 0) = false) (hcat : Hid (cat r = c))
    (q0 : (c == 13) = false) (q1 : (c == 14) = false) (q2 : (c == 15) = false) : Calls Tryd.prog 3 #[.int .i32 r] w fun e w' => e = .returned (.bool true) ∧ Below w.heap.size w w' := by
  have HZ := Lib.hid hz; clear hz
  have HK := Lib.hid hc; clear hc
  go_enter Tryd.func3, Tryd.ntmps3
  go_wp2_with fail
  refine (cat_at r c hcat.out _).mono ?_
  rintro e w1 ⟨rfl, hb⟩
  have HB := Lib.hid hb; clear hb
  go_wp2_with fail
  refine (latinF_yes r _ (by omega) hr).mono ?_
  rintro e w2 ⟨rfl, rfl⟩
  go_wp2_with fail
  refine (isNumber_false r z _ hr (cell_later HB.out HK.out) HZ.out).mono ?_
  rintro e w2 ⟨rfl, rfl⟩
  go_wp2_with fail
  go_ret
  exact ⟨rfl, HB.out⟩
theorem symbol_a (r : Nat) (z c : Int) (w : World) (hr : (r : Int) ≤ 255) (hc : w.cell? ⟨0, r, none⟩ = some (.int .u8 z)) (hz : (bits .and .u8 z 8 != 0) = false) (hcat : Hid (cat r = c))
    (q0 : decide (23 ≤ c) = false) : Calls Tryd.prog 4 #[.int .i32 r] w fun e w' => e = .returned (.bool true) ∧ Below w.heap.size w w' := by
  have HZ := Lib.hid hz; clear hz
  have HK := Lib.hid hc; clear hc
  go_enter Tryd.func4, Tryd.ntmps4
  go_wp2_with fail
  refine (cat_at r c hcat.out _).mono ?_
  rintro e w1 ⟨rfl, hb⟩
  have HB := Lib.hid hb; clear hb
  go_wp2_with fail
  refine (latinF_yes r _ (by omega) hr).mono ?_
  rintro e w2 ⟨rfl, rfl⟩
  go_wp2_with fail
  refine (isSymbol_false r z _ hr (cell_later HB.out HK.out) HZ.out).mono ?_
  rintro e w2 ⟨rfl, rfl⟩
  go_wp2_with fail
  go_ret
  exact ⟨rfl, HB.out⟩
theorem symbol_b (r : Nat) (z c : Int) (w : World) (hr : (r : Int) ≤ 255) (hc : w.cell? ⟨0, r, none⟩ = some (.int .u8 z)) (hz : (bits .and .u8 z 8 != 0) = false) (hcat : Hid (cat r = c))
    (q0 : decide (23 ≤ c) = true) (q1 : decide (c ≤ 26) = false) : Calls Tryd.prog 4 #[.int .i32 r] w fun e w' => e = .returned (.bool true) ∧ Below w.heap.size w w' := by
  have HZ := Lib.hid hz; clear hz
  have HK := Lib.hid hc; clear hc
  go_enter Tryd.func4, Tryd.ntmps4
  go_wp2_with fail
  refine (cat_at r c hcat.out _).mono ?_
  rintro e w1 ⟨rfl, hb⟩
  have HB := Lib.hid hb; clear hb
  go_wp2_with fail
  refine (latinF_yes r _ (by omega) hr).mono ?_
  rintro e w2 ⟨rfl, rfl⟩
  go_wp2_with fail
  refine (isSymbol_false r z _ hr (cell_later HB.out HK.out) HZ.out).mono ?_
  rintro e w2 ⟨rfl, rfl⟩
  go_wp2_with fail
  go_ret
  exact ⟨rfl, HB.out⟩
theorem symbol_c (r : Nat) (z c : Int) (w : World) (hr : (r : Int) ≤ 255) (hc : w.cell? ⟨0, r, none⟩ = some (.int .u8 z)) (hz : (bits .and .u8 z 8 != 0) = true) (hcat : Hid (cat r = c))
    (q0 : decide (23 ≤ c) = true) (q1 : decide (c ≤ 26) = true) : Calls Tryd.prog 4 #[.int .i32 r] w fun e w' => e = .returned (.bool true) ∧ Below w.heap.size w w' := by
  have HZ := Lib.hid hz; clear hz
  have HK := Lib.hid hc; clear hc
  go_enter Tryd.func4, Tryd.ntmps4
  go_wp2_with fail
  refine (cat_at r c hcat.out _).mono ?_
  rintro e w1 ⟨rfl, hb⟩
  have HB := Lib.hid hb; clear hb
  go_wp2_with fail
  refine (latinF_yes r _ (by omega) hr).mono ?_
  rintro e w2 ⟨rfl, rfl⟩
  go_wp2_with fail
  refine (isSymbol_true r z _ hr (cell_later HB.out HK.out) HZ.out).mono ?_
  rintro e w2 ⟨rfl, rfl⟩
  go_wp2_with fail
  go_ret
  exact ⟨rfl, HB.out⟩
theorem lower_a (r : Nat) (z c : Int) (w : World) (hr : (r : Int) ≤ 255) (hc : w.cell? ⟨0, r, none⟩ = some (.int .u8 z)) (hz : (bits .and .u8 z 96 == 64) = true) (hcat : Hid (cat r = c))
    (q0 : (c == 5) = true) : Calls Tryd.prog 5 #[.int .i32 r] w fun e w' => e = .returned (.bool true) ∧ Below w.heap.size w w' := by
  have HZ := Lib.hid hz; clear hz
  have HK := Lib.hid hc; clear hc
  go_enter Tryd.func5, Tryd.ntmps5
  go_wp2_with fail
  refine (latinF_yes r _ (by omega) hr).mono ?_
  rintro e w2 ⟨rfl, rfl⟩
  go_wp2_with fail
  refine (isLower_true r z _ hr HK.out HZ.out).mono ?_
  rintro e w2 ⟨rfl, rfl⟩
  go_wp2_with fail
  refine (cat_at r c hcat.out _).mono ?_
  rintro e w1 ⟨rfl, hb⟩
  have HB := Lib.hid hb; clear hb
  go_wp2_with fail
  go_ret
  exact ⟨rfl, HB.out⟩
theorem lower_b (r : Nat) (z c : Int) (w : World) (hr : (r : Int) ≤ 255) (hc : w.cell? ⟨0, r, none⟩ = some (.int .u8 z)) (hz : (bits .and .u8 z 96 == 64) = false) (hcat : Hid (cat r = c))
    (q0 : (c == 5) = false) : Calls Tryd.prog 5 #[.int .i32 r] w fun e w' => e = .returned (.bool true) ∧ Below w.heap.size w w' := by
  have HZ := Lib.hid hz; clear hz
  have HK := Lib.hid hc; clear hc
  go_enter Tryd.func5, Tryd.ntmps5
  go_wp2_with fail
  refine (latinF_yes r _ (by omega) hr).mono ?_
  rintro e w2 ⟨rfl, rfl⟩
  go_wp2_with fail
  refine (isLower_false r z _ hr HK.out HZ.out).mono ?_
  rintro e w2 ⟨rfl, rfl⟩
  go_wp2_with fail
  refine (cat_at r c hcat.out _).mono ?_
  rintro e w1 ⟨rfl, hb⟩
  have HB := Lib.hid hb; clear hb
  go_wp2_with fail
  go_ret
  exact ⟨rfl, HB.out⟩
theorem graphic_a (r : Nat) (z c : Int) (w : World) (hr : (r : Int) ≤ 255) (hc : w.cell? ⟨0, r, none⟩ = some (.int .u8 z)) (hz : (bits .and .u8 z 144 != 0) = false) (hcat : Hid (cat r = c))
    (q0 : decide (5 ≤ c) = false) (q1 : (c == 29) = false) : Calls Tryd.prog 6 #[.int .i32 r] w fun e w' => e = .returned (.bool true) ∧ Below w.heap.size w w' := by
  have HZ := Lib.hid hz; clear hz
  have HK := Lib.hid hc; clear hc
  go_enter Tryd.func6, Tryd.ntmps6
  go_wp2_with fail
  refine (cat_at r c hcat.out _).mono ?_
  rintro e w1 ⟨rfl, hb⟩
  have HB := Lib.hid hb; clear hb
  go_wp2_with fail
  refine (latinF_yes r _ (by omega) hr).mono ?_
  rintro e w2 ⟨rfl, rfl⟩
  go_wp2_with fail
  refine (isGraphic_false r z _ hr (cell_later HB.out HK.out) HZ.out).mono ?_
  rintro e w2 ⟨rfl, rfl⟩
  go_wp2_with fail
  go_ret
  exact ⟨rfl, HB.out⟩
theorem graphic_b (r : Nat) (z c : Int) (w : World) (hr : (r : Int) ≤ 255) (hc : w.cell? ⟨0, r, none⟩ = some (.int .u8 z)) (hz : (bits .and .u8 z 144 != 0) = true) (hcat : Hid (cat r = c))
    (q0 : decide (5 ≤ c) = true) (q1 : decide (c ≤ 26) = true) : Calls Tryd.prog 6 #[.int .i32 r] w fun e w' => e = .returned (.bool true) ∧ Below w.heap.size w w' := by
  have HZ := Lib.hid hz; clear hz
  have HK := Lib.hid hc; clear hc
  go_enter Tryd.func6, Tryd.ntmps6
  go_wp2_with fail
  refine (cat_at r c hcat.out _).mono ?_
  rintro e w1 ⟨rfl, hb⟩
  have HB := Lib.hid hb; clear hb
  go_wp2_with fail
  refine (latinF_yes r _ (by omega) hr).mono ?_
  rintro e w2 ⟨rfl, rfl⟩
  go_wp2_with fail
  refine (isGraphic_true r z _ hr (cell_later HB.out HK.out) HZ.out).mono ?_
  rintro e w2 ⟨rfl, rfl⟩
  go_wp2_with fail
  go_ret
  exact ⟨rfl, HB.out⟩
theorem graphic_c (r : Nat) (z c : Int) (w : World) (hr : (r : Int) ≤ 255) (hc : w.cell? ⟨0, r, none⟩ = some (.int .u8 z)) (hz : (bits .and .u8 z 144 != 0) = true) (hcat : Hid (cat r = c))
    (q0 : decide (5 ≤ c) = true) (q1 : decide (c ≤ 26) = false) (q2 : (c == 29) = true) : Calls Tryd.prog 6 #[.int .i32 r] w fun e w' => e = .returned (.bool true) ∧ Below w.heap.size w w' := by
  have HZ := Lib.hid hz; clear hz
  have HK := Lib.hid hc; clear hc
  go_enter Tryd.func6, Tryd.ntmps6
  go_wp2_with fail
  refine (cat_at r c hcat.out _).mono ?_
  rintro e w1 ⟨rfl, hb⟩
  have HB := Lib.hid hb; clear hb
  go_wp2_with fail
  refine (latinF_yes r _ (by omega) hr).mono ?_
  rintro e w2 ⟨rfl, rfl⟩
  go_wp2_with fail
  refine (isGraphic_true r z _ hr (cell_later HB.out HK.out) HZ.out).mono ?_
  rintro e w2 ⟨rfl, rfl⟩
  go_wp2_with fail
  go_ret
  exact ⟨rfl, HB.out⟩
theorem graphic_d (r : Nat) (z c : Int) (w : World) (hr : (r : Int) ≤ 255) (hc : w.cell? ⟨0, r, none⟩ = some (.int .u8 z)) (hz : (bits .and .u8 z 144 != 0) = false) (hcat : Hid (cat r = c))
    (q0 : decide (5 ≤ c) = true) (q1 : decide (c ≤ 26) = false) (q2 : (c == 29) = false) : Calls Tryd.prog 6 #[.int .i32 r] w fun e w' => e = .returned (.bool true) ∧ Below w.heap.size w w' := by
  have HZ := Lib.hid hz; clear hz
  have HK := Lib.hid hc; clear hc
  go_enter Tryd.func6, Tryd.ntmps6
  go_wp2_with fail
  refine (cat_at r c hcat.out _).mono ?_
  rintro e w1 ⟨rfl, hb⟩
  have HB := Lib.hid hb; clear hb
  go_wp2_with fail
  refine (latinF_yes r _ (by omega) hr).mono ?_
  rintro e w2 ⟨rfl, rfl⟩
  go_wp2_with fail
  refine (isGraphic_false r z _ hr (cell_later HB.out HK.out) HZ.out).mono ?_
  rintro e w2 ⟨rfl, rfl⟩
  go_wp2_with fail
  go_ret
  exact ⟨rfl, HB.out⟩
theorem number_in (r : Nat) (z : Int) (w : World) (hr : (r : Int) ≤ 255) (hc : w.cell? ⟨0, r, none⟩ = some (.int .u8 z)) (hz : (bits .and .u8 z 4 != 0) = (cat r == 13 || cat r == 14 || cat r == 15)) :
    Calls Tryd.prog 3 #[.int .i32 r] w fun e w' => e = .returned (.bool true) ∧ Below w.heap.size w w' := by
  obtain ⟨c, hcat⟩ : ∃ c, cat r = c := ⟨_, rfl⟩
  rw [hcat] at hz
  have H := Lib.hid hcat
  cases q0 : (c == 13) with
  | true => exact number_a r z c w hr hc (by rw [hz, q0]; rfl) H q0
  | false =>
    cases q1 : (c == 14) with
    | true => exact number_b r z c w hr hc (by rw [hz, q0, q1]; rfl) H q0 q1
    | false =>
      cases q2 : (c == 15) with
      | true => exact number_c r z c w hr hc (by rw [hz, q0, q1, q2]; rfl) H q0 q1 q2
      | false => exact number_d r z c w hr hc (by rw [hz, q0, q1, q2]; rfl) H q0 q1 q2
theorem symbol_in (r : Nat) (z : Int) (w : World) (hr : (r : Int) ≤ 255) (hc : w.cell? ⟨0, r, none⟩ = some (.int .u8 z)) (hz : (bits .and .u8 z 8 != 0) = (decide (23 ≤ cat r) && decide (cat r ≤ 26))) :
    Calls Tryd.prog 4 #[.int .i32 r] w fun e w' => e = .returned (.bool true) ∧ Below w.heap.size w w' := by
  obtain ⟨c, hcat⟩ : ∃ c, cat r = c := ⟨_, rfl⟩
  rw [hcat] at hz
  have H := Lib.hid hcat
  cases q0 : decide (23 ≤ c) with
  | false => exact symbol_a r z c w hr hc (by rw [hz, q0]; rfl) H q0
  | true =>
    cases q1 : decide (c ≤ 26) with
    | false => exact symbol_b r z c w hr hc (by rw [hz, q0, q1]; rfl) H q0 q1
    | true => exact symbol_c r z c w hr hc (by rw [hz, q0, q1]; rfl) H q0 q1
theorem lower_in (r : Nat) (z : Int) (w : World) (hr : (r : Int) ≤ 255) (hc : w.cell? ⟨0, r, none⟩ = some (.int .u8 z)) (hz : (bits .and .u8 z 96 == 64) = (cat r == 5)) :
    Calls Tryd.prog 5 #[.int .i32 r] w fun e w' => e = .returned (.bool true) ∧ Below w.heap.size w w' := by
  obtain ⟨c, hcat⟩ : ∃ c, cat r = c := ⟨_, rfl⟩
  rw [hcat] at hz
  have H := Lib.hid hcat
  cases q0 : (c == 5) with
  | true => exact lower_a r z c w hr hc (by rw [hz, q0]) H q0
  | false => exact lower_b r z c w hr hc (by rw [hz, q0]) H q0
theorem graphic_in (r : Nat) (z : Int) (w : World) (hr : (r : Int) ≤ 255) (hc : w.cell? ⟨0, r, none⟩ = some (.int .u8 z)) (hz : (bits .and .u8 z 144 != 0) = ((decide (5 ≤ cat r) && decide (cat r ≤ 26)) || cat r == 29)) :
    Calls Tryd.prog 6 #[.int .i32 r] w fun e w' => e = .returned (.bool true) ∧ Below w.heap.size w w' := by
  obtain ⟨c, hcat⟩ : ∃ c, cat r = c := ⟨_, rfl⟩
  rw [hcat] at hz
  have H := Lib.hid hcat
  cases q0 : decide (5 ≤ c) with
  | false =>
    have q2 : (c == 29) = false := by
      have := of_decide_eq_false q0
      cases h : (c == 29) with
      | false => rfl
      | true => have := eq_of_beq h; omega
    exact graphic_a r z c w hr hc (by rw [hz, q0, q2]; rfl) H q0 q2
  | true =>
    cases q1 : decide (c ≤ 26) with
    | true => exact graphic_b r z c w hr hc (by rw [hz, q0, q1]; rfl) H q0 q1
    | false =>
      cases q2 : (c == 29) with
      | true => exact graphic_c r z c w hr hc (by rw [hz, q0, q1, q2]; rfl) H q0 q1 q2
      | false => exact graphic_d r z c w hr hc (by rw [hz, q0, q1, q2]; rfl) H q0 q1 q2
end Go.Proofs.YtligkeplkillkaaDoor
