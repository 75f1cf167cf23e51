/-
  THE WALKS of spec.within, spec.Latin and spec.Category: what each returns for every number; Category makes new blocks, all else lies as it lay. No condition.
-/
import Derived.Test.YtligkeplkillkaaDoorLatin
import Derived.WalkKit
import Derived.Handy
import Derived.Lib.Hide
namespace Go.Proofs.YtligkeplkillkaaDoor
open Go.RowKit
def inB (a b r : Int) : Bool := decide (a ≤ r) && decide (r ≤ b)
theorem within_yes (r a b : Int) (w : World) (h1 : a ≤ r) (h2 : r ≤ b) : Calls Tryd.prog 14 #[.int .i32 r, .int .i32 a, .int .i32 b] w fun e w' => e = .returned (.bool true) ∧ w = w' := by
  go_enter Tryd.func14, Tryd.ntmps14
  go_wp2
  go_ret
  exact ⟨rfl, rfl⟩
theorem within_no1 (r a b : Int) (w : World) (h1 : ¬ a ≤ r) : Calls Tryd.prog 14 #[.int .i32 r, .int .i32 a, .int .i32 b] w fun e w' => e = .returned (.bool false) ∧ w = w' := by
  have d1 : decide (a ≤ r) = false := by simpa using h1
  go_enter Tryd.func14, Tryd.ntmps14
  go_wp2
  go_ret
  exact ⟨rfl, rfl⟩
theorem within_no2 (r a b : Int) (w : World) (h1 : a ≤ r) (h2 : ¬ r ≤ b) : Calls Tryd.prog 14 #[.int .i32 r, .int .i32 a, .int .i32 b] w fun e w' => e = .returned (.bool false) ∧ w = w' := by
  have d1 : decide (a ≤ r) = true := by simpa using h1
  have d2 : decide (r ≤ b) = false := by simpa using h2
  go_enter Tryd.func14, Tryd.ntmps14
  go_wp2
  go_ret
  exact ⟨rfl, rfl⟩
theorem within_any (r a b : Int) (w : World) : Calls Tryd.prog 14 #[.int .i32 r, .int .i32 a, .int .i32 b] w fun e w' => e = .returned (.bool (inB a b r)) ∧ w = w' := by
  unfold inB
  by_cases h1 : a ≤ r
  · by_cases h2 : r ≤ b
    · rw [decide_eq_true h1, decide_eq_true h2]; exact within_yes r a b w h1 h2
    · rw [decide_eq_true h1, decide_eq_false h2]; exact within_no2 r a b w h1 h2
  · rw [decide_eq_false h1]; exact within_no1 r a b w h1
theorem latinF_any (r : Int) (w : World) : Calls Tryd.prog 8 #[.int .i32 r] w fun e w' => e = .returned (.bool (inB 0 255 r)) ∧ w = w' := by
  go_enter Tryd.func8, Tryd.ntmps8
  go_wp2_with (go_at_call 14; refine (within_any _ _ _ _).mono ?_; rintro e w' ⟨rfl, rfl⟩)
  go_ret
  exact ⟨rfl, rfl⟩

theorem latinCells_at (k : Nat) (h : k < spans.length) (w wr : World) (hb : Below (w.heap.size + 1) (w.alloc (.cells latinCells 27)) wr) :
    wr.cell? ⟨w.heap.size, k * 3, none⟩ = some (.int .i32 spans[k].1) ∧ wr.cell? ⟨w.heap.size, k * 3 + 1, none⟩ = some (.int .i32 spans[k].2.1) ∧ wr.cell? ⟨w.heap.size, k * 3 + 2, none⟩ = some (.int .i64 spans[k].2.2) := by
  have e := cellsOf3_at spans k h
  have c : ∀ o v, (cellsOf3 spans)[o]? = some v → wr.cell? ⟨w.heap.size, o, none⟩ = some v := fun o v hv => by
    rw [hb.cell (p := ⟨w.heap.size, o, none⟩) (by simp)]
    have : latinCells[o]? = some v := by simpa [latinCells] using hv
    simpa [go_sem] using this
  exact ⟨c _ _ e.1, c _ _ e.2.1, c _ _ e.2.2⟩
theorem within_no (r a b : Int) (w : World) (h : ¬ (a ≤ r ∧ r ≤ b)) : Calls Tryd.prog 14 #[.int .i32 r, .int .i32 a, .int .i32 b] w fun e w' => e = .returned (.bool false) ∧ w = w' := by
  by_cases h1 : a ≤ r
  · exact within_no2 r a b w h1 (fun h2 => h ⟨h1, h2⟩)
  · exact within_no1 r a b w h1
theorem below_out' {w wr : World} {o : Obj} (hb : Below (w.heap.size + 1) (w.alloc o) wr) : Below w.heap.size w wr :=
  ((Below.refl _ _).alloc (Nat.le_refl _) _).trans (hb.mono (Nat.le_succ _))
theorem below_in {w wr : World} {o o' : Obj} (hb : Below (w.heap.size + 1) (w.alloc o) wr) : Below (w.heap.size + 1) (w.alloc o) (wr.alloc o') :=
  hb.alloc (by have := hb.size; simp at this; exact this) _
theorem below_out {w wr : World} {o o' : Obj} (hb : Below (w.heap.size + 1) (w.alloc o) wr) : Below w.heap.size w (wr.alloc o') :=
  below_out' (below_in hb)
set_option maxHeartbeats 1000000 in
theorem cat_any (r : Int) (w : World) : Calls Tryd.prog 7 #[.int .i32 r] w fun e w' => e = .returned (.int .i64 (cat r)) ∧ Below w.heap.size w w' := by
  go_enter Tryd.func7, Tryd.ntmps7
  go_wp2_with fail
  refine (latin_any w).mono ?_
  rintro e w' ⟨rfl, rfl⟩
  go_wp2_with fail
  go_loopw [7] (fun i wr => ∃ k : Nat, k ≤ 60 ∧ i = .int .i64 k ∧ Below (w.heap.size + 1) (w.alloc (.cells latinCells 27)) wr ∧ Hid (catOf r (spans.drop k) = cat r)) (fun i _ => 60 - (intOf i).toNat)
  case atStart => exact ⟨0, by omega, rfl, Below.refl _ _, Lib.hid rfl⟩
  case round =>
    obtain ⟨k, hk, rfl, hb, HC⟩ := hrel
    by_cases hlt : k < 60
    · obtain ⟨a, b, c, hs⟩ : ∃ a b c, spans[k]'(by rw [spans_length]; exact hlt) = (a, b, c) := ⟨_, _, _, rfl⟩
      have hcs := latinCells_at k (by rw [spans_length]; exact hlt) w wr hb
      rw [hs] at hcs
      obtain ⟨h0, h1, h2⟩ := hcs
      simp only at h0 h1 h2
      have HS := Lib.hid hs; clear hs
      have HB := Lib.hid hb; clear hb
      by_cases hin : a ≤ r ∧ r ≤ b
      · go_wp2_with fail
        refine (within_yes r a b _ hin.1 hin.2).mono ?_
        rintro e w' ⟨rfl, rfl⟩
        go_wp2
        go_ret
        refine ⟨?_, below_out HB.out⟩
        have := (catOf_hit (r := r) (l := spans) (k := k) (by rw [spans_length]; exact hlt) (by rw [HS.out]; exact hin)).symm.trans HC.out
        rw [HS.out] at this
        rw [← this]
        rfl
      · have HN := Lib.hid hin; clear hin
        go_wp2_with fail
        refine (within_no r a b _ HN.out).mono ?_
        rintro e w' ⟨rfl, rfl⟩
        go_wp2
        go_roundw
        case rel => exact ⟨k + 1, by omega, by go_num, below_in HB.out, Lib.hid ((catOf_miss (r := r) (l := spans) (k := k) (by rw [spans_length]; exact hlt) (by rw [HS.out]; exact HN.out)).symm.trans HC.out)⟩
        case measure => simp [intOf]; omega
    · have h60 : k = 60 := by omega
      subst h60
      have HB := Lib.hid hb; clear hb
      go_wp2
      go_ret
      refine ⟨?_, (below_out' HB.out)⟩
      rw [← HC.out]; rfl
theorem cat_at (r c : Int) (h : cat r = c) (w : World) : Calls Tryd.prog 7 #[.int .i32 r] w fun e w' => e = .returned (.int .i64 c) ∧ Below w.heap.size w w' := h ▸ cat_any r w
end Go.Proofs.YtligkeplkillkaaDoor
