/-
  PLAIN: the sixty spans of the first 256 code points as numbers, their 180 cells, and the category that a first match gives. No condition.
-/
import Derived.WalkKit
namespace Go.Proofs.YtligkeplkillkaaDoor
def spans : List (Int × Int × Int) := [(0, 31, 0), (32, 32, 29), (33, 35, 21), (36, 36, 23), (37, 39, 21), (40, 40, 22), (41, 41, 18), (42, 42, 21), (43, 43, 25), (44, 44, 21), (45, 45, 17), (46, 47, 21), (48, 57, 13), (58, 59, 21), (60, 62, 25), (63, 64, 21), (65, 90, 9), (91, 91, 22), (92, 92, 21), (93, 93, 18), (94, 94, 24), (95, 95, 16), (96, 96, 24), (97, 122, 5), (123, 123, 22), (124, 124, 25), (125, 125, 18), (126, 126, 25), (127, 159, 0), (160, 160, 29), (161, 161, 21), (162, 165, 23), (166, 166, 26), (167, 167, 21), (168, 168, 24), (169, 169, 26), (170, 170, 7), (171, 171, 20), (172, 172, 25), (173, 173, 1), (174, 174, 26), (175, 175, 24), (176, 176, 26), (177, 177, 25), (178, 179, 15), (180, 180, 24), (181, 181, 5), (182, 183, 21), (184, 184, 24), (185, 185, 15), (186, 186, 7), (187, 187, 19), (188, 190, 15), (191, 191, 21), (192, 214, 9), (215, 215, 25), (216, 222, 9), (223, 246, 5), (247, 247, 25), (248, 255, 5)]
/-- The cells of a row of spans, three a span. -/
def cellsOf3 (l : List (Int × Int × Int)) : List Value := l.flatMap fun s => [.int .i32 s.1, .int .i32 s.2.1, .int .i64 s.2.2]
def latinCells : Array Value := (cellsOf3 spans).toArray
theorem cellsOf3_at (l : List (Int × Int × Int)) : ∀ k (h : k < l.length),
    (cellsOf3 l)[k * 3]? = some (.int .i32 l[k].1) ∧ (cellsOf3 l)[k * 3 + 1]? = some (.int .i32 l[k].2.1) ∧ (cellsOf3 l)[k * 3 + 2]? = some (.int .i64 l[k].2.2) := by
  induction l with
  | nil => intro k h; simp at h
  | cons s t ih =>
    intro k h
    cases k with
    | zero => exact ⟨rfl, rfl, rfl⟩
    | succ k =>
      have e : cellsOf3 (s :: t) = .int .i32 s.1 :: .int .i32 s.2.1 :: .int .i64 s.2.2 :: cellsOf3 t := rfl
      have := ih k (by simpa using h)
      rw [e, show (k + 1) * 3 = k * 3 + 1 + 1 + 1 by omega]
      exact this
theorem spans_length : spans.length = 60 := rfl
/-- The category of the first span that holds r; 2 where none does. -/
def catOf (r : Int) : List (Int × Int × Int) → Int
  | [] => 2
  | (a, b, c) :: t => if a ≤ r ∧ r ≤ b then c else catOf r t
def cat (r : Int) : Int := catOf r spans
theorem catOf_hit {r : Int} {l : List (Int × Int × Int)} {k : Nat} (h : k < l.length) (hr : l[k].1 ≤ r ∧ r ≤ l[k].2.1) : catOf r (l.drop k) = l[k].2.2 := by
  rw [List.drop_eq_getElem_cons h]
  exact if_pos hr
theorem catOf_miss {r : Int} {l : List (Int × Int × Int)} {k : Nat} (h : k < l.length) (hr : ¬ (l[k].1 ≤ r ∧ r ≤ l[k].2.1)) : catOf r (l.drop k) = catOf r (l.drop (k + 1)) := by
  rw [List.drop_eq_getElem_cons h]
  exact if_neg hr
end Go.Proofs.YtligkeplkillkaaDoor
