import Derived.Test.YbulkbtwyTally
namespace Go.Proofs.Ybulkbtwy
open Go.RowKit

/-- The cells of a row of tallies: value, count, seen. -/
def flat (ts : List (Int × Int × Bool)) : List Value := ts.flatMap fun t => tc t.1 t.2.1 t.2.2

theorem flat_snoc (ts : List (Int × Int × Bool)) (t : Int × Int × Bool) : flat (ts ++ [t]) = flat ts ++ tc t.1 t.2.1 t.2.2 := by simp [flat]

theorem flat_length (ts : List (Int × Int × Bool)) : (flat ts).length = ts.length * 8 := by
  induction ts with
  | nil => rfl
  | cons t ts ih =>
    have : flat (t :: ts) = tc t.1 t.2.1 t.2.2 ++ flat ts := rfl
    rw [this, List.length_append, ih]
    simp [tc]; omega

theorem flat_get (ts : List (Int × Int × Bool)) : ∀ (i j : Nat), i < ts.length → j < 8 →
    (flat ts)[i * 8 + j]? = (tc (ts.getD i (0, 0, false)).1 (ts.getD i (0, 0, false)).2.1 (ts.getD i (0, 0, false)).2.2)[j]? := by
  induction ts with
  | nil => intro i j hi; simp at hi
  | cons t ts ih =>
    intro i j hi hj
    have e : flat (t :: ts) = tc t.1 t.2.1 t.2.2 ++ flat ts := rfl
    rw [e]
    cases i with
    | zero =>
      rw [List.getElem?_append_left (by simp [tc]; omega)]
      simp
    | succ i =>
      have hl : (tc t.1 t.2.1 t.2.2).length = 8 := rfl
      rw [List.getElem?_append_right (by rw [hl]; omega), hl]
      rw [show (i + 1) * 8 + j - 8 = i * 8 + j from by omega, ih i j (by simpa using hi) hj]
      simp

/-- The eight cells of the i-th tally of an owned row. -/
theorem tally_cells {w : World} {B g n cap : Nat} {ts : List (Int × Int × Bool)} (h : w.ownsRow B 25 8 (.slice (some ⟨g, 0, none⟩) n cap) n (flat ts)) (hn : ts.length = n)
    (i : Nat) (hi : i < n) (v c : Int) (s : Bool) (ht : ts.getD i (0, 0, false) = (v, c, s)) :
    w.cell? ⟨g, i * 8, none⟩ = some (.int .i32 v) ∧ w.cell? ⟨g, i * 8 + 1, none⟩ = some (.int .i32 0) ∧ w.cell? ⟨g, i * 8 + 2, none⟩ = some (.int .i32 c) ∧
    w.cell? ⟨g, i * 8 + 3, none⟩ = some (.int .i32 0) ∧ w.cell? ⟨g, i * 8 + 4, none⟩ = some (.int .i32 0) ∧ w.cell? ⟨g, i * 8 + 5, none⟩ = some (.int .i32 0) ∧
    w.cell? ⟨g, i * 8 + 6, none⟩ = some (.bool false) ∧ w.cell? ⟨g, i * 8 + 7, none⟩ = some (.bool s) := by
  have key : ∀ j, j < 8 → w.cell? ⟨g, i * 8 + j, none⟩ = (tc v c s)[j]? := fun j hj => by
    rw [h.cellAt (i * 8 + j) (by omega), flat_get ts i j (by omega) hj, ht]
  exact ⟨key 0 (by omega), key 1 (by omega), key 2 (by omega), key 3 (by omega), key 4 (by omega), key 5 (by omega), key 6 (by omega), key 7 (by omega)⟩

theorem flat_head (ts : List (Int × Int × Bool)) (i : Nat) (hi : i < ts.length) : (flat ts)[i * 8]? = some (.int .i32 (ts.getD i (0, 0, false)).1) := by
  rw [show i * 8 = i * 8 + 0 from rfl, flat_get ts i 0 hi (by omega)]
  rfl

end Go.Proofs.Ybulkbtwy
