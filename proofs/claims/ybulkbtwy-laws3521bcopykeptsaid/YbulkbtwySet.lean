import Derived.Test.YbulkbtwyAdd
namespace Go.Proofs.Ybulkbtwy
open Go.RowKit

/-- A chunk that lies below block M. -/
def CkLow (w : World) (M : Nat) (c : Ck) : Prop := c.p < M ∧ ∃ lv bv, CkAt w 0 c lv bv ∧ (∀ k, lv.ownBlock = some k → k < M) ∧ (∀ k, bv.ownBlock = some k → k < M)
/-- A chunk that lies from block M on. -/
def CkHi (w : World) (M : Nat) (c : Ck) : Prop := M ≤ c.p ∧ ∃ lv bv, CkAt w M c lv bv

def ptrs (cs : List Ck) : List Value := cs.map fun c => Value.pointer (some ⟨c.p, 0, none⟩)
def bases (cs : List Ck) : List Value := cs.map fun c => Value.int .i32 (c.base : Int)

/-- A set: its chunks low (below M) and hi (at most one, from M on). -/
structure SetAt (w : World) (kb B M : Nat) (low hi : List Ck) (cv sv : Value) (n : Nat) : Prop where
  blk : w.heap[kb]? = some (.cells #[cv, sv, .int .i64 (n : Int)] 39 (0, 0))
  chs : w.ownsRow B 47 1 cv (low ++ hi).length (ptrs (low ++ hi))
  bss : w.ownsRow B 21 1 sv (low ++ hi).length (bases (low ++ hi))
  lows : ∀ c ∈ low, CkLow w M c
  his : ∀ c ∈ hi, CkHi w M c
  hM : M ≤ w.heap.size
  hB : B ≤ w.heap.size

/-- None of the changed blocks below M is a chunk's, a list's, a bitmap's. -/
def Clear (S : Nat → Prop) (M : Nat) (w : World) : Prop := ∀ k, k < M → S k → ∃ cur T fz, w.heap[k]? = some (.cells cur T fz) ∧ T ≠ 51 ∧ T ≠ 34 ∧ T ≠ 52

theorem CkAt.keep {S : Nat → Prop} {w w' : World} {B : Nat} {c : Ck} {lv bv : Value} (h : CkAt w B c lv bv) (hc : Chg S w w') (hp : ¬ S c.p) (hl : ∀ k, lv.ownBlock = some k → ¬ S k) (hb : ∀ k, bv.ownBlock = some k → ¬ S k) :
    CkAt w' B c lv bv := by
  obtain ⟨h1, h2⟩ := h
  refine ⟨(hc.block _ (lt_of_blk h1) hp).trans h1, ?_⟩
  rcases h2 with ⟨a, b, d⟩ | ⟨a, b, d⟩
  · exact Or.inl ⟨a, b, hc.owns d hl⟩
  · exact Or.inr ⟨a, b, hc.owns d hb⟩

theorem CkAt.lrow {w : World} {B : Nat} {c : Ck} {lv bv : Value} (h : CkAt w B c lv bv) {k : Nat} (hk : lv.ownBlock = some k) : ∃ cur, w.heap[k]? = some (.cells cur 34 (0, 0)) := by
  rcases h.2 with ⟨_, _, d⟩ | ⟨_, rfl, _⟩
  · exact owns_blk d hk
  · cases hk
theorem CkAt.brow {w : World} {B : Nat} {c : Ck} {lv bv : Value} (h : CkAt w B c lv bv) {k : Nat} (hk : bv.ownBlock = some k) : ∃ cur, w.heap[k]? = some (.cells cur 52 (0, 0)) := by
  rcases h.2 with ⟨_, rfl, _⟩ | ⟨_, _, d⟩
  · cases hk
  · exact owns_blk d hk

theorem CkLow.keep {S : Nat → Prop} {w w' : World} {M : Nat} {c : Ck} (h : CkLow w M c) (hc : Chg S w w') (hcl : Clear S M w) : CkLow w' M c := by
  obtain ⟨hp, lv, bv, hk, hl, hb⟩ := h
  refine ⟨hp, lv, bv, hk.keep hc (fun hs => ?_) (fun k hk' hs => ?_) (fun k hk' hs => ?_), hl, hb⟩
  · obtain ⟨cur, T, fz, e, n1, _, _⟩ := hcl _ hp hs
    rw [hk.1] at e
    simp only [Option.some.injEq, Obj.cells.injEq] at e
    exact n1 e.2.1.symm
  · obtain ⟨cur, T, fz, e, _, n1, _⟩ := hcl _ (hl k hk') hs
    obtain ⟨cur', e'⟩ := hk.lrow hk'
    rw [e'] at e
    simp only [Option.some.injEq, Obj.cells.injEq] at e
    exact n1 e.2.1.symm
  · obtain ⟨cur, T, fz, e, _, _, n1⟩ := hcl _ (hb k hk') hs
    obtain ⟨cur', e'⟩ := hk.brow hk'
    rw [e'] at e
    simp only [Option.some.injEq, Obj.cells.injEq] at e
    exact n1 e.2.1.symm

theorem CkLow.mono {w : World} {M M' : Nat} {c : Ck} (h : CkLow w M c) (hM : M ≤ M') : CkLow w M' c := by
  obtain ⟨hp, lv, bv, hk, hl, hb⟩ := h
  exact ⟨by omega, lv, bv, hk, fun k e => by have := hl k e; omega, fun k e => by have := hb k e; omega⟩

theorem CkAt.base0 {w : World} {B : Nat} {c : Ck} {lv bv : Value} (h : CkAt w B c lv bv) : CkAt w 0 c lv bv := by
  obtain ⟨h1, h2⟩ := h
  refine ⟨h1, ?_⟩
  rcases h2 with ⟨a, b, d⟩ | ⟨a, b, d⟩
  · exact Or.inl ⟨a, b, owns_base d (fun _ _ => Nat.zero_le _)⟩
  · exact Or.inr ⟨a, b, owns_base d (fun _ _ => Nat.zero_le _)⟩

theorem CkHi.low {w : World} {M : Nat} {c : Ck} (h : CkHi w M c) : CkLow w w.heap.size c := by
  obtain ⟨_, lv, bv, hk⟩ := h
  exact ⟨lt_of_blk hk.1, lv, bv, hk.base0, fun k e => by obtain ⟨cur, e'⟩ := hk.lrow e; exact lt_of_blk e', fun k e => by obtain ⟨cur, e'⟩ := hk.brow e; exact lt_of_blk e'⟩

/-- The rows of a set and its own block are of other types than chunks and their rows. -/
theorem SetAt.clear {w : World} {kb B M : Nat} {low hi : List Ck} {cv sv : Value} {n : Nat} (S : SetAt w kb B M low hi cv sv n) (M' : Nat) : Clear (fun k => k = kb ∨ cv.ownBlock = some k ∨ sv.ownBlock = some k) M' w := by
  intro k _ hk
  rcases hk with rfl | hk | hk
  · exact ⟨_, _, _, S.blk, by decide, by decide, by decide⟩
  · obtain ⟨cur, e⟩ := owns_blk S.chs hk
    exact ⟨_, _, _, e, by decide, by decide, by decide⟩
  · obtain ⟨cur, e⟩ := owns_blk S.bss hk
    exact ⟨_, _, _, e, by decide, by decide, by decide⟩

theorem Chg.either {S T U : Nat → Prop} {a b c : World} (h : Chg S a b) (k : Chg T b c) (hS : ∀ i, i < a.heap.size → S i → U i) (hT : ∀ i, i < a.heap.size → T i → U i) : Chg U a c :=
  ⟨k.os.trans h.os, k.tape.trans h.tape, k.output.trans h.output, Nat.le_trans h.size k.size,
    fun i hi hs => (k.block i (Nat.lt_of_lt_of_le hi h.size) (fun x => hs (hT i hi x))).trans (h.block i hi (fun x => hs (hS i hi x)))⟩

theorem set_cells {w : World} {p : Nat} {a0 a1 a2 : Value} (hb : w.heap[p]? = some (.cells #[a0, a1, a2] 39 (0, 0))) :
    w.cell? ⟨p, 0, none⟩ = some a0 ∧ w.cell? ⟨p, 1, none⟩ = some a1 ∧ w.cell? ⟨p, 2, none⟩ = some a2 ∧ ∀ j, w.frozen? ⟨p, j, none⟩ = false :=
  ⟨cell_of_row w p 0 _ _ _ hb, cell_of_row w p 1 _ _ _ hb, cell_of_row w p 2 _ _ _ hb, fun j => frozen_of_row w p j _ _ hb⟩
theorem set_set0 {w : World} {p : Nat} {a0 a1 a2 : Value} (hb : w.heap[p]? = some (.cells #[a0, a1, a2] 39 (0, 0))) (u : Value) :
    (w.setCell ⟨p, 0, none⟩ u).heap[p]? = some (.cells #[u, a1, a2] 39 (0, 0)) := by rw [heap_setCell_same w p 0 _ 39 _ hb]; rfl
theorem set_set1 {w : World} {p : Nat} {a0 a1 a2 : Value} (hb : w.heap[p]? = some (.cells #[a0, a1, a2] 39 (0, 0))) (u : Value) :
    (w.setCell ⟨p, 1, none⟩ u).heap[p]? = some (.cells #[a0, u, a2] 39 (0, 0)) := by rw [heap_setCell_same w p 1 _ 39 _ hb]; rfl
theorem set_set2 {w : World} {p : Nat} {a0 a1 a2 : Value} (hb : w.heap[p]? = some (.cells #[a0, a1, a2] 39 (0, 0))) (u : Value) :
    (w.setCell ⟨p, 2, none⟩ u).heap[p]? = some (.cells #[a0, a1, u] 39 (0, 0)) := by rw [heap_setCell_same w p 2 _ 39 _ hb]; rfl

end Go.Proofs.Ybulkbtwy
