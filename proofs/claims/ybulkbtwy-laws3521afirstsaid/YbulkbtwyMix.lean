import Derived.Test.YbulkbtwyFlat
namespace Go.Proofs.Ybulkbtwy
open Go.RowKit

/-- The tallies that the law lays: the first i of them are laid, the rest are zero. -/
def mix (zs : List Int) (n i : Nat) : List (Int × Int × Bool) := (List.range n).map fun j => if j < i then (zs.getD j 0, (j : Int), (j : Int) % 2 == 0) else (0, 0, false)

def zt : Value := .agg #[.int .i32 0, .int .i32 0, .int .i32 0, .int .i32 0, .int .i32 0, .int .i32 0, .bool false, .bool false]

theorem mix_length (zs : List Int) (n i : Nat) : (mix zs n i).length = n := by simp [mix]

theorem mix_at (zs : List Int) (n i j : Nat) (hj : j < n) : (mix zs n i).getD j (0, 0, false) = if j < i then (zs.getD j 0, (j : Int), (j : Int) % 2 == 0) else (0, 0, false) := by
  simp [mix, hj]

theorem mix_step (zs : List Int) (n i : Nat) : mix zs n (i + 1) = (mix zs n i).set i (zs.getD i 0, (i : Int), (i : Int) % 2 == 0) := by
  apply List.ext_getElem?
  intro m
  rw [List.getElem?_set]
  by_cases hm : m < n
  · by_cases h : i = m
    · subst h
      simp [mix, hm]
    · rw [if_neg h]
      by_cases h2 : m < i
      · simp [mix, hm, h2, show m < i + 1 from by omega]
      · simp [mix, hm, h2, show ¬ m < i + 1 from by omega]
  · by_cases h : i = m
    · subst h
      simp [mix, hm]
    · simp [mix, hm, h]

theorem flat_set (v c : Int) (s : Bool) (ts : List (Int × Int × Bool)) : ∀ i, i < ts.length →
    ((((((((flat ts).set (i * 8) (.int .i32 v)).set (i * 8 + 1) (.int .i32 0)).set (i * 8 + 2) (.int .i32 c)).set (i * 8 + 3) (.int .i32 0)).set (i * 8 + 4) (.int .i32 0)).set (i * 8 + 5) (.int .i32 0)).set (i * 8 + 6) (.bool false)).set (i * 8 + 7) (.bool s) =
      flat (ts.set i (v, c, s)) := by
  induction ts with
  | nil => intro i hi; simp at hi
  | cons t ts ih =>
    intro i hi
    have e : flat (t :: ts) = tc t.1 t.2.1 t.2.2 ++ flat ts := rfl
    cases i with
    | zero =>
      rw [e]
      have e2 : flat ((t :: ts).set 0 (v, c, s)) = tc v c s ++ flat ts := rfl
      rw [e2]
      simp [tc]
    | succ i =>
      have e2 : flat ((t :: ts).set (i + 1) (v, c, s)) = tc t.1 t.2.1 t.2.2 ++ flat (ts.set i (v, c, s)) := rfl
      rw [e, e2, ← ih i (by simpa using hi)]
      have hl : (tc t.1 t.2.1 t.2.2).length = 8 := rfl
      have key : ∀ (xs : List Value) (j : Nat) (u : Value), (tc t.1 t.2.1 t.2.2 ++ xs).set ((i + 1) * 8 + j) u = tc t.1 t.2.1 t.2.2 ++ xs.set (i * 8 + j) u := fun xs j u => by
        rw [List.set_append_right _ _ (by rw [hl]; omega), hl, show (i + 1) * 8 + j - 8 = i * 8 + j from by omega]
      have key0 := fun (xs : List Value) (u : Value) => key xs 0 u
      simp only [Nat.add_zero] at key0
      rw [key0, key, key, key, key, key, key, key]

theorem made_flat (zs : List Int) (n : Nat) : (madeCells zt.cells (n * 8)).toList = flat (mix zs n 0) := by
  apply List.ext_getElem?
  intro m
  by_cases hm : m < n * 8
  · obtain ⟨i, j, rfl, hj⟩ : ∃ i j, m = i * 8 + j ∧ j < 8 := ⟨m / 8, m % 8, by omega, by omega⟩
    have hi : i < n := by omega
    rw [flat_get _ i j (by rw [mix_length]; omega) hj, mix_at zs n 0 i hi]
    simp only [Nat.not_lt_zero, if_false]
    have hz : zt.cells = (tc 0 0 false).toArray := rfl
    have hmod : (i * 8 + j) % 8 = j := by omega
    rw [hz]
    simp only [madeCells, Array.toList_map, Array.toList_range, List.getElem?_map, List.getElem?_range hm]
    simp only [Option.map_some]
    have hs : (tc 0 0 false).toArray.size = 8 := rfl
    rw [hs, hmod]
    have : j = 0 ∨ j = 1 ∨ j = 2 ∨ j = 3 ∨ j = 4 ∨ j = 5 ∨ j = 6 ∨ j = 7 := by omega
    rcases this with rfl | rfl | rfl | rfl | rfl | rfl | rfl | rfl <;> rfl
  · rw [List.getElem?_eq_none (by simp [size_madeCells]; omega), List.getElem?_eq_none (by rw [flat_length, mix_length]; omega)]

/-- One tally stored. -/
theorem owns_store8 {w : World} {B g n cap : Nat} {ts : List (Int × Int × Bool)} (h : w.ownsRow B 25 8 (.slice (some ⟨g, 0, none⟩) n cap) n (flat ts)) (i : Nat) (hi : i < ts.length) (v c : Int) (s : Bool) :
    ((((((((w.setCell ⟨g, i * 8, none⟩ (.int .i32 v)).setCell ⟨g, i * 8 + 1, none⟩ (.int .i32 0)).setCell ⟨g, i * 8 + 2, none⟩ (.int .i32 c)).setCell ⟨g, i * 8 + 3, none⟩ (.int .i32 0)).setCell ⟨g, i * 8 + 4, none⟩ (.int .i32 0)).setCell
      ⟨g, i * 8 + 5, none⟩ (.int .i32 0)).setCell ⟨g, i * 8 + 6, none⟩ (.bool false)).setCell ⟨g, i * 8 + 7, none⟩ (.bool s)).ownsRow B 25 8 (.slice (some ⟨g, 0, none⟩) n cap) n (flat (ts.set i (v, c, s))) := by
  rw [← flat_set v c s ts i hi]
  exact ((((((((h.stored _ _).1.stored _ _).1.stored _ _).1.stored _ _).1.stored _ _).1.stored _ _).1.stored _ _).1.stored _ _).1


/-- What holds from the track's making on: the track lies in the block behind the tallies' first row; its tallies are ts. -/
structure FRel (w : World) (kb : Nat) (ts : List (Int × Int × Bool)) (sv : Value) (wr : World) : Prop where
  blk : ∃ cur fz, wr.heap[kb]? = some (.cells cur 30 fz)
  c0 : wr.cell? ⟨kb, 0, none⟩ = some (.bool false)
  c1 : wr.cell? ⟨kb, 1, none⟩ = some (.bool false)
  c2 : wr.cell? ⟨kb, 2, none⟩ = some (.int .i32 (-1))
  c3 : wr.cell? ⟨kb, 3, none⟩ = some (.bool false)
  c4 : wr.cell? ⟨kb, 4, none⟩ = some (.bool false)
  c5 : wr.cell? ⟨kb, 5, none⟩ = some (.int .i32 (-1))
  cell : wr.cell? ⟨kb, 6, none⟩ = some sv
  frz : wr.frozen? ⟨kb, 6, none⟩ = false
  tal : wr.ownsRow w.heap.size 25 8 sv ts.length (flat ts)
  bel : Below w.heap.size w wr
  hkb : w.heap.size ≤ kb

section
variable {w : World} {kb : Nat} {ts : List (Int × Int × Bool)} {sv : Value} {wr : World}

theorem blk_apart {B e size : Nat} {n k : Nat} {v : Value} {xs : List Value} {x : World} {cur : Array Value} {T : TypeId} {fz : Nat × Nat} (h : x.ownsRow B e size v n xs) (hk : x.heap[k]? = some (.cells cur T fz)) (hT : T ≠ e) : v.ownBlock ≠ some k := by
  intro hv
  rcases h.2 with ⟨rfl, _⟩ | ⟨g, cap, cur', rfl, _, hh, _⟩
  · cases hv
  · have : g = k := Option.some.inj hv
    subst this
    rw [hk] at hh
    simp only [Option.some.injEq, Obj.cells.injEq] at hh
    exact hT hh.2.1

theorem FRel.apart (S : FRel w kb ts sv wr) : sv.ownBlock ≠ some (kb) := by
  obtain ⟨cur, fz, hk⟩ := S.blk
  exact blk_apart S.tal hk (by decide)

theorem FRel.size (S : FRel w kb ts sv wr) : kb < wr.heap.size := by
  obtain ⟨cur, fz, hk⟩ := S.blk
  exact (Array.getElem?_eq_some_iff.1 hk).1

theorem FRel.draws (S : FRel w kb ts sv wr) (n : Nat) : FRel w kb ts sv (wr.drewN n) :=
  ⟨S.blk, S.c0, S.c1, S.c2, S.c3, S.c4, S.c5, S.cell, S.frz, S.tal, below_drewN S.bel n, S.hkb⟩

theorem FRel.more (S : FRel w kb ts sv wr) (v : Int) {w1 : World} {sv' : Value}
    (hm : w1.ownsRow w.heap.size 25 8 sv' (ts.length + 1) (flat ts ++ tc v 0 false))
    (hch : Chg (fun k => sv.ownBlock = some k) wr w1) : FRel w kb (ts ++ [(v, 0, false)]) sv' (w1.setCell ⟨kb, 6, none⟩ sv') := by
  have hs := S.size
  have hap := S.apart
  have hsz := hch.size
  obtain ⟨cur, fz, hk⟩ := S.blk
  have hk1 : w1.heap[kb]? = some (.cells cur 30 fz) := (hch.block _ hs hap).trans hk
  have hce : ∀ j u, wr.cell? ⟨kb, j, none⟩ = some u → w1.cell? ⟨kb, j, none⟩ = some u := fun j u hu =>
    (hch.cell (p := ⟨kb, j, none⟩) hs hap).trans hu
  have hot : ∀ j u, j ≠ 6 → wr.cell? ⟨kb, j, none⟩ = some u → (w1.setCell ⟨kb, 6, none⟩ sv').cell? ⟨kb, j, none⟩ = some u := fun j u hj hu => by
    rw [World.cell?_setCell_other _ _ _ _ (show (⟨kb, 6, none⟩ : Addr) ≠ ⟨kb, j, none⟩ from fun h => hj (congrArg Addr.off h).symm)]; exact hce j u hu
  refine ⟨?_, hot 0 _ (by omega) S.c0, hot 1 _ (by omega) S.c1, hot 2 _ (by omega) S.c2, hot 3 _ (by omega) S.c3, hot 4 _ (by omega) S.c4, hot 5 _ (by omega) S.c5,
    World.cell?_setCell_same _ _ _ (hce 6 _ S.cell), ?_, ?_, ?_, S.hkb⟩
  · by_cases hz : fz = (0, 0)
    · subst hz
      exact ⟨_, _, heap_setCell_same w1 _ 6 cur 30 sv' hk1⟩
    · simp only [World.setCell, Array.getElem?_modify, hk1]
      simp
  · rw [World.frozen?_setCell, hch.frozen (p := ⟨kb, 6, none⟩) hs hap]; exact S.frz
  · refine owns_setCell (by simpa [flat_snoc] using hm) (blk_apart hm hk1 (by decide)) _
  · exact (S.bel.trans (hch.below (by have := S.hkb; omega) (fun k h => (owns_lt S.tal _ h).1))).setCell S.hkb _

theorem FRel.tally (S : FRel w kb ts sv wr) (v : Int) (hn : ts.length ≤ 4096) :
    Calls Yba.prog 7 #[.pointer (some ⟨kb, 0, none⟩), .int .i32 v] wr fun e w' =>
      (∃ i : Nat, i < ts.length ∧ (ts.map (·.1)).getD i 0 = v ∧ (∀ j, j < i → (ts.map (·.1)).getD j 0 ≠ v) ∧ e = .returned (.int .i32 i) ∧ FRel w kb ts sv w') ∨
      ((∀ j, j < ts.length → (ts.map (·.1)).getD j 0 ≠ v) ∧ e = .returned (.int .i32 ts.length) ∧ ∃ sv', FRel w kb (ts ++ [(v, 0, false)]) sv' w') := by
  refine (tally_any w.heap.size (kb) sv ts.length (flat ts) (ts.map (·.1)) v wr S.tal (fun i hi => ?_) S.cell S.frz S.size S.apart (by have := S.size; have := S.hkb; omega) hn).mono fun e w' h => ?_
  · rw [flat_head ts i hi]; simp [hi]
  · rcases h with ⟨i, a1, a2, a3, a4, rfl⟩ | ⟨h1, h2, w1, sv', h3, h4, rfl⟩
    · exact Or.inl ⟨i, a1, a2, a3, a4, S⟩
    · exact Or.inr ⟨h1, h2, sv', S.more v h3 h4⟩
end

theorem first_start {w wr : World} {len : Nat} {ts : List (Int × Int × Bool)} (o : Obj) (hts : ts.length = len)
    (ho : o = .cells #[.bool false, .bool false, .int .i32 (-1), .bool false, .bool false, .int .i32 (-1), .slice (some ⟨w.heap.size, 0, none⟩) len len] 30)
    (hown : wr.ownsRow w.heap.size 25 8 (.slice (some ⟨w.heap.size, 0, none⟩) len len) len (flat ts)) (hbel : Below w.heap.size w wr) :
    FRel w wr.heap.size ts (.slice (some ⟨w.heap.size, 0, none⟩) len len) (wr.alloc o) := by
  subst ho
  subst hts
  have hk := heap_alloc_new wr (.cells #[.bool false, .bool false, .int .i32 (-1), .bool false, .bool false, .int .i32 (-1), .slice (some ⟨w.heap.size, 0, none⟩) ts.length ts.length] 30)
  refine ⟨⟨_, _, hk⟩, ?_, ?_, ?_, ?_, ?_, ?_, ?_, ?_, hown.alloc _, hbel.alloc hbel.size _, hbel.size⟩ <;> simp

end Go.Proofs.Ybulkbtwy
