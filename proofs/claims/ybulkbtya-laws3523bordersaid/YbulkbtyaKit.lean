import Derived.Test.YbulkbtyaRows
import Derived.WalkKit
import Derived.Below
/- Worlds that part from another in named blocks alone. -/
namespace Go.Proofs.Ybulkbtya
open Go.RowKit

/-- w' is w but for the blocks of S (and new ones). -/
structure Chg (S : Nat → Prop) (w w' : World) : Prop where
  os : w'.os = w.os
  tape : w'.tape = w.tape
  output : w'.output = w.output
  size : w.heap.size ≤ w'.heap.size
  block : ∀ k, k < w.heap.size → ¬ S k → w'.heap[k]? = w.heap[k]?

theorem Chg.refl (S : Nat → Prop) (w : World) : Chg S w w := ⟨rfl, rfl, rfl, Nat.le_refl _, fun _ _ _ => rfl⟩

theorem Chg.trans {S : Nat → Prop} {a b c : World} (h : Chg S a b) (k : Chg S b c) : Chg S a c :=
  ⟨k.os.trans h.os, k.tape.trans h.tape, k.output.trans h.output, Nat.le_trans h.size k.size,
    fun i hi hs => (k.block i (Nat.lt_of_lt_of_le hi h.size) hs).trans (h.block i hi hs)⟩

theorem Chg.mono {S T : Nat → Prop} {a b : World} (h : Chg S a b) (hst : ∀ k, k < a.heap.size → S k → T k) : Chg T a b :=
  ⟨h.os, h.tape, h.output, h.size, fun i hi hs => h.block i hi (fun x => hs (hst i hi x))⟩

theorem Chg.drew {S : Nat → Prop} {a w : World} (h : Chg S a w) : Chg S a w.drew := ⟨h.os, h.tape, h.output, h.size, h.block⟩

theorem Chg.alloc {S : Nat → Prop} {a w : World} (h : Chg S a w) (o : Obj) : Chg S a (w.alloc o) :=
  h.trans ⟨rfl, rfl, rfl, by simp, fun k hk _ => Below.heap_alloc _ _ _ hk⟩

theorem Chg.setCell {S : Nat → Prop} {a w : World} (h : Chg S a w) {p : Addr} (hp : p.block < a.heap.size → S p.block) (u : Value) : Chg S a (w.setCell p u) :=
  ⟨h.os, h.tape, h.output, by simpa [World.setCell] using h.size, fun k hk hs => by
    rw [Below.heap_setCell _ _ _ _ (fun e => by subst e; exact hs (hp hk))]
    exact h.block k hk hs⟩

theorem Chg.grown {S : Nat → Prop} {a w w' : World} {row : Option Nat} (h : Chg S a w) (hg : w.grownBy w' row) (hr : ∀ k, row = some k → k < a.heap.size → S k) : Chg S a w' :=
  ⟨hg.os.trans h.os, hg.tape.trans h.tape, hg.output.trans h.output, Nat.le_trans h.size hg.size, fun k hk hs => by
    rw [hg.block k (Nat.lt_of_lt_of_le hk h.size) (fun e => hs (hr k e.symm hk))]
    exact h.block k hk hs⟩

theorem Chg.below {S : Nat → Prop} {a w : World} {B : Nat} (h : Chg S a w) (hB : B ≤ a.heap.size) (hs : ∀ k, S k → B ≤ k) : Below B a w :=
  ⟨h.os, h.tape, h.output, h.size, fun k hk => h.block k (by omega) (fun x => by have := hs k x; omega)⟩

theorem Chg.ofBelow {B : Nat} {a w : World} (h : Below B a w) : Chg (fun k => B ≤ k) a w :=
  ⟨h.os, h.tape, h.output, h.size, fun k _ hs => h.block k (by omega)⟩

theorem Chg.cell {S : Nat → Prop} {a w : World} (h : Chg S a w) {p : Addr} (hp : p.block < a.heap.size) (hs : ¬ S p.block) : w.cell? p = a.cell? p :=
  World.cell?_of_block (w := a) (h.block p.block hp hs)

theorem Chg.frozen {S : Nat → Prop} {a w : World} (h : Chg S a w) {p : Addr} (hp : p.block < a.heap.size) (hs : ¬ S p.block) : w.frozen? p = a.frozen? p :=
  World.frozen?_of_block (w := a) (h.block p.block hp hs)

theorem Chg.owns {S : Nat → Prop} {a w : World} (h : Chg S a w) {base : Nat} {e : TypeId} {size : Nat} {v : Value} {n : Nat} {xs : List Value}
    (ho : a.ownsRow base e size v n xs) (hs : ∀ k, v.ownBlock = some k → ¬ S k) : w.ownsRow base e size v n xs := by
  obtain ⟨h1, h2⟩ := ho
  refine ⟨h1, ?_⟩
  rcases h2 with h2 | ⟨g, cap, cur, hv, hg, hh, r⟩
  · exact Or.inl h2
  · refine Or.inr ⟨g, cap, cur, hv, hg, ?_, r⟩
    have hlt : g < a.heap.size := (Array.getElem?_eq_some_iff.1 hh).1
    rw [h.block g hlt (hs g (by rw [hv]; rfl))]
    exact hh

theorem owns_lt {w : World} {base : Nat} {e : TypeId} {size : Nat} {v : Value} {n : Nat} {xs : List Value} (h : w.ownsRow base e size v n xs) : ∀ k, v.ownBlock = some k → base ≤ k ∧ k < w.heap.size := h.lt

/-- A slice that owns its cells shows what it is. -/
theorem owns_form {w : World} {base : Nat} {e : TypeId} {size : Nat} {v : Value} {n : Nat} {xs : List Value} (h : w.ownsRow base e size v n xs) :
    (v = .slice none 0 0 ∧ n = 0 ∧ xs = []) ∨ ∃ g cap, v = .slice (some ⟨g, 0, none⟩) n cap ∧ base ≤ g ∧ g < w.heap.size ∧ n ≤ cap ∧ cap ≤ maxLen := by
  obtain ⟨h1, h2⟩ := h
  rcases h2 with ⟨h2, h3⟩ | ⟨g, cap, cur, hv, hg, hh, r1, r2, _⟩
  · subst h3
    exact Or.inl ⟨h2, rfl, List.eq_nil_of_length_eq_zero (by simpa using h1)⟩
  · exact Or.inr ⟨g, cap, hv, hg, (Array.getElem?_eq_some_iff.1 hh).1, r1, r2⟩

/-- A store into another block leaves what is owned. -/
theorem owns_setCell {w : World} {base : Nat} {e : TypeId} {size : Nat} {v : Value} {n : Nat} {xs : List Value} (h : w.ownsRow base e size v n xs) {a : Addr} (ha : v.ownBlock ≠ some a.block) (u : Value) :
    (w.setCell a u).ownsRow base e size v n xs :=
  ((Chg.refl (fun k => k = a.block) w).setCell (fun _ => rfl) u).owns h (fun k hk e => ha (by rw [hk, e]))

end Go.Proofs.Ybulkbtya
