import Derived.Test.YbulkbtwyBits
namespace Go.Proofs.Ybulkbtwy
open Go.RowKit

/-! ### Plain: the words of a bitmap -/
def orBit (x : Int) (o : Nat) : Int := bits .or .u64 x (IntKind.u64.wrap (2 ^ (o % 64)))
def setBit (ws : List Int) (o : Nat) : List Int := ws.set (o / 64) (orBit (ws.getD (o / 64) 0) o)
def words (offs : List Nat) : List Int := offs.foldl setBit (List.replicate 64 0)

theorem words_snoc (offs : List Nat) (o : Nat) : words (offs ++ [o]) = setBit (words offs) o := by simp [words]
theorem setBit_length (ws : List Int) (o : Nat) : (setBit ws o).length = ws.length := by simp [setBit]
theorem foldl_setBit_length (offs : List Nat) : ∀ ws : List Int, (offs.foldl setBit ws).length = ws.length := by
  induction offs with
  | nil => intro ws; rfl
  | cons o offs ih => intro ws; rw [List.foldl_cons, ih, setBit_length]
theorem words_length (offs : List Nat) : (words offs).length = 64 := by unfold words; rw [foldl_setBit_length]; simp

/-! ### Memory: a chunk -/
structure Ck where
  p : Nat
  ow : Value
  base : Nat
  offs : List Nat

def u16s (offs : List Nat) : List Value := offs.map fun (o : Nat) => Value.int .u16 (o : Int)
def u64s (ws : List Int) : List Value := ws.map (Value.int .u64)

/-- The chunk's five cells; its offsets in a list, or in a bitmap, in rows from block B on. -/
def CkAt (w : World) (B : Nat) (c : Ck) (lv bv : Value) : Prop :=
  w.heap[c.p]? = some (.cells #[c.ow, .int .i32 (c.base : Int), .int .i32 (c.offs.length : Int), lv, bv] 51 (0, 0)) ∧
  ((c.offs.length ≤ 256 ∧ bv = .slice none 0 0 ∧ w.ownsRow B 34 1 lv c.offs.length (u16s c.offs)) ∨
   (256 < c.offs.length ∧ lv = .slice none 0 0 ∧ w.ownsRow B 52 1 bv 64 (u64s (words c.offs))))

theorem owns_base {w : World} {B B' : Nat} {e : TypeId} {size : Nat} {v : Value} {n : Nat} {xs : List Value} (h : w.ownsRow B e size v n xs) (hb : ∀ k, v.ownBlock = some k → B' ≤ k) : w.ownsRow B' e size v n xs := by
  obtain ⟨h1, h2⟩ := h
  refine ⟨h1, ?_⟩
  rcases h2 with h2 | ⟨g, cap, cur, hv, hg, r⟩
  · exact Or.inl h2
  · exact Or.inr ⟨g, cap, cur, hv, hb g (by rw [hv]; rfl), r⟩

theorem row_apart {B e size : Nat} {n k : Nat} {v : Value} {xs : List Value} {x : World} {cur : Array Value} {T : TypeId} {fz : Nat × Nat} (h : x.ownsRow B e size v n xs) (hk : x.heap[k]? = some (.cells cur T fz)) (hT : T ≠ e) : v.ownBlock ≠ some k := by
  intro hv
  rcases h.2 with ⟨rfl, _⟩ | ⟨g, cap, cur', rfl, _, hh, _⟩
  · cases hv
  · have : g = k := Option.some.inj hv
    subst this
    rw [hk] at hh
    simp only [Option.some.injEq, Obj.cells.injEq] at hh
    exact hT hh.2.1

theorem owns_blk {B e size : Nat} {n k : Nat} {v : Value} {xs : List Value} {x : World} (h : x.ownsRow B e size v n xs) (hv : v.ownBlock = some k) : ∃ cur, x.heap[k]? = some (.cells cur e (0, 0)) := by
  rcases h.2 with ⟨rfl, _⟩ | ⟨g, cap, cur', rfl, _, hh, _⟩
  · cases hv
  · have : g = k := Option.some.inj hv
    subst this
    exact ⟨_, hh⟩

theorem owns_apart {x : World} {B e size n B' e' size' n' k : Nat} {v v' : Value} {xs xs' : List Value} (h : x.ownsRow B e size v n xs) (h' : x.ownsRow B' e' size' v' n' xs') (he : e ≠ e') (hv : v.ownBlock = some k) : v'.ownBlock ≠ some k := by
  obtain ⟨cur, hc⟩ := owns_blk h hv
  exact row_apart h' hc he

theorem lt_of_blk {w : World} {k : Nat} {o : Obj} (h : w.heap[k]? = some o) : k < w.heap.size := (Array.getElem?_eq_some_iff.1 h).1

end Go.Proofs.Ybulkbtwy
