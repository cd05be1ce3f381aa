import Derived.Test.YbulkbtyaOrders
import Derived.Test.YbulkbtyaLocks
import Derived.Conc.MuLone
import Derived.WalkSpells
import Derived.WalkLawsBesides
import Derived.Outline
import Derived.BigRegion
import Derived.BigQuiet
import Derived.Deep.AppendLies
import Derived.Laws.AppendOwnNone
import Derived.Laws.OwnMore
import Derived.Laws.Cover3
set_option linter.unusedVariables false
namespace Go.Proofs.Ybulkbtya
open Go.RowKit Go.MuLone

theorem Yba.info5 : (Yba.prog.info? 5).map (fun i => (i.zero, i.size, i.bytes)) = some (some (.int .u8 0), 1, 1) := by kernel_rfl
theorem Yba.info35 : (Yba.prog.info? 35).map (fun i => (i.zero, i.size, i.bytes)) = some (some (.agg #[.int .u64 0, .int .i64 0, .pointer none, .int .u64 0, .int .i64 0, .pointer none, .string ⟨#[]⟩, .string ⟨#[]⟩, .slice none 0 0]), 9, 104) := by kernel_rfl

theorem owns_base {w : World} {B B' : Nat} {e : TypeId} {size : Nat} {v : Value} {n : Nat} {xs : List Value} (h : w.ownsRow B e size v n xs) (hb : ∀ k, v.ownBlock = some k → B' ≤ k) : w.ownsRow B' e size v n xs := by
  obtain ⟨h1, h2⟩ := h
  refine ⟨h1, ?_⟩
  rcases h2 with h2 | ⟨g, cap, cur, hv, hg, r⟩
  · exact Or.inl h2
  · exact Or.inr ⟨g, cap, cur, hv, hb g (by rw [hv]; rfl), r⟩

theorem row_apart {B e size : Nat} {n k : Nat} {v : Value} {xs : List Value} {x : World} {cur : Array Value} {T : TypeId} {fz : Nat × Nat} (h : x.ownsRow B e size v n xs) (hk : x.heap[k]? = some (.cells cur T fz)) (hT : T ≠ e) : v.ownBlock ≠ some k := by
  intro hv
  rcases h.2 with ⟨rfl, _⟩ | ⟨g, cap, cur', rfl, _, hh, _⟩
  · cases hv
  · have : g = k := Option.some.inj hv
    subst this
    rw [hk] at hh
    simp only [Option.some.injEq, Obj.cells.injEq] at hh
    exact hT hh.2.1

theorem owns_blk {B e size : Nat} {n k : Nat} {v : Value} {xs : List Value} {x : World} (h : x.ownsRow B e size v n xs) (hv : v.ownBlock = some k) : ∃ cur, x.heap[k]? = some (.cells cur e (0, 0)) := by
  rcases h.2 with ⟨rfl, _⟩ | ⟨g, cap, cur', rfl, _, hh, _⟩
  · cases hv
  · have : g = k := Option.some.inj hv
    subst this
    exact ⟨_, hh⟩

theorem owns_apart {x : World} {B e size n B' e' size' n' k : Nat} {v v' : Value} {xs xs' : List Value} (h : x.ownsRow B e size v n xs) (h' : x.ownsRow B' e' size' v' n' xs') (he : e ≠ e') (hv : v.ownBlock = some k) : v'.ownBlock ≠ some k := by
  obtain ⟨cur, hc⟩ := owns_blk h hv
  exact row_apart h' hc he

theorem lt_of_blk {w : World} {k : Nat} {o : Obj} (h : w.heap[k]? = some o) : k < w.heap.size := (Array.getElem?_eq_some_iff.1 h).1


theorem Chg.either {S T U : Nat → Prop} {a b c : World} (h : Chg S a b) (k : Chg T b c) (hS : ∀ i, i < a.heap.size → S i → U i) (hT : ∀ i, i < a.heap.size → T i → U i) : Chg U a c :=
  ⟨k.os.trans h.os, k.tape.trans h.tape, k.output.trans h.output, Nat.le_trans h.size k.size,
    fun i hi hs => (k.block i (Nat.lt_of_lt_of_le hi h.size) (fun x => hs (hT i hi x))).trans (h.block i hi (fun x => hs (hS i hi x)))⟩

theorem owns_slice {w : World} {B e size : Nat} {v : Value} {n : Nat} {xs : List Value} (h : w.ownsRow B e size v n xs) : ∃ a c, v = .slice a n c := by
  rcases owns_form h with ⟨rfl, rfl, _⟩ | ⟨g, c, rfl, _⟩
  · exact ⟨_, _, rfl⟩
  · exact ⟨_, _, rfl⟩

theorem add_block (x : Addr) (j : Nat) : (x.add j).block = x.block := by
  unfold Addr.add
  split <;> rfl

/-! ### bytes.Clone -/
theorem run_eql_sn (w : World) (a : Option Addr) (l c : Nat) : (binOp .eql 27 (.slice a l c) (.slice none 0 0)).run Yba.prog w = .ok (.bool a.isNone) w := by
  have h := run_equal_slice_nil (P := Yba.prog) w 27 5 a l c Yba.underlying27
  simp only [binOp]
  simp [h]

theorem clone_nil (w : World) : Calls Yba.prog 12 #[.slice none 0 0] w fun e w' => e = .returned (.slice none 0 0) ∧ w' = w := by
  have hnl := run_eql_sn
  go_enter Yba.func12, Yba.ntmps12
  go_wp2
  go_ret
  exact ⟨rfl, rfl⟩

theorem clone_some (x : Addr) (len cap : Nat) (zs : List Value) (w : World) (hz : zs.length = len) (hc : ∀ j u, zs[j]? = some u → w.cell? (x.add j) = some u) (h1 : ∀ u ∈ zs, u.oneCell' = true) (hlen : len ≤ 140737488355328) (hx : len ≠ 0 → x.block < w.heap.size) :
    Calls Yba.prog 12 #[.slice (some x) len cap] w fun e w' => ∃ bv, e = .returned bv ∧ w'.ownsRow w.heap.size 5 1 bv len zs ∧ Chg (fun _ => False) w w' := by
  obtain ⟨i5, hi5, hz5, hs5, hy5⟩ := info_parts Yba.info5
  have hnl := run_eql_sn
  go_enter Yba.func12, Yba.ntmps12
  have hw1 : (w.alloc (.cells #[] 5)).ownsRow w.heap.size 5 1 (.slice (some ⟨w.heap.size, 0, none⟩) 0 0) 0 [] := World.ownsRow_made w #[] 0 (Nat.le_refl _) (by decide) rfl
  have hc1 : ∀ j u, zs[j]? = some u → (w.alloc (.cells #[] 5)).cell? (x.add j) = some u := fun j u h => (World.cell?_of_block (w := w) (a := x.add j) (Below.heap_alloc _ _ _ (by rw [add_block]; exact hx (by have := (List.getElem?_eq_some_iff.1 h).1; omega)))).trans (hc j u h)
  go_wp2_with (at_builtin; refine wpList_append_own _ rfl (.tmp 5) (.tmp 6) 27 rfl w.heap.size 5 i5 (.int .u8 0) 1 1 Yba.underlying27 hi5 hz5 hs5 hy5 rfl (by decide) (.slice (some ⟨w.heap.size, 0, none⟩) 0 0) 0 [] rfl hw1 x len cap zs rfl (by omega) hc1 h1 (by unfold maxLen; omega) (by omega) (by simp) ?_; intro bv w2 hown hgrow hnil)
  go_ret
  rw [Nat.zero_add, List.nil_append] at hown
  exact ⟨_, rfl, hown, ((Chg.refl _ w).alloc _).grown hgrow (fun k hk h => by have : w.heap.size = k := Option.some.inj hk; omega)⟩

/-! ### The pool -/
def nos : ByteArray := ⟨#[]⟩
/-- The pool's block: its lock is free; what it received is rv. -/
def poolObj (l : Int) (rv : Value) : Obj := .cells #[.string ⟨#[]⟩, .int .i64 0, .string ⟨#[]⟩, .string ⟨#[]⟩, .chan none, .int .i32 l, .int .u32 0, rv] 52 (0, 0)

theorem pool_cells {w : World} {p : Nat} {l : Int} {rv : Value} (hb : w.heap[p]? = some (poolObj l rv)) :
    w.cell? ⟨p, 5, none⟩ = some (.int .i32 l) ∧ w.cell? ⟨p, 7, none⟩ = some rv ∧ ∀ j, w.frozen? ⟨p, j, none⟩ = false :=
  ⟨cell_of_row w p 5 _ _ _ hb, cell_of_row w p 7 _ _ _ hb, fun j => frozen_of_row w p j _ _ hb⟩
theorem pool_lock {w : World} {p : Nat} {l : Int} {rv : Value} (hb : w.heap[p]? = some (poolObj l rv)) (l' : Int) : (w.setCell ⟨p, 5, none⟩ (.int .i32 l')).heap[p]? = some (poolObj l' rv) := by
  rw [heap_setCell_same w p 5 _ 52 _ hb]; rfl
theorem pool_put {w : World} {p : Nat} {l : Int} {rv : Value} (hb : w.heap[p]? = some (poolObj l rv)) (u : Value) : (w.setCell ⟨p, 7, none⟩ u).heap[p]? = some (poolObj l u) := by
  rw [heap_setCell_same w p 7 _ 52 _ hb]; rfl

theorem Chg.fix {a b : World} {p : Nat} (h : Chg (fun k => k = p) a b) (hp : b.heap[p]? = a.heap[p]?) : Chg (fun _ => False) a b :=
  ⟨h.os, h.tape, h.output, h.size, fun k hk _ => by
    by_cases e : k = p
    · subst e; exact hp
    · exact h.block k hk e⟩

/-! ### Received: a copy of its own -/
theorem wpList_clone {P : Program} {w : World} {ops : Array Oper} {rest : List Oper} {o : Oper} {a : Act} {Q : Exit → Act → World → Prop} (hgd : o.guard = none) (x : Operand) (t : TypeId)
    (ho : o.op = .call { callee := .builtin .append, args := #[.const (.slice none 0 0), x], argTypes := #[t, t] })
    (e : TypeId) (i : TypeInfo) (z : Value) (size bytes : Nat) (ht : P.underlying t = some (.slice e)) (hi : P.info? e = some i) (hz : i.zero = some z)
    (hsize : i.size = size) (hby : i.bytes = bytes) (hzs : z.cells.size = size) (hsz : 0 < size) (B : Nat) (sv : Value) (n : Nat) (xs : List Value) (hx : a.eval x = sv) (hown : w.ownsRow B e size sv n xs) (h1 : ∀ u ∈ xs, u.oneCell' = true)
    (hlen : xs.length = n * size) (h63 : n ≤ maxLen) (hbytes : n * bytes ≤ 140737488355328)
    (h : ∀ c' a' w', w'.ownsRow w.heap.size e size (.slice a' n c') n xs → w.grownBy w' none → (n = 0 → sv = .slice none 0 0 → a' = none ∧ c' = 0) → wpList P ops Q rest (a.put o.dst (.slice a' n c')) w') : wpList P ops Q (o :: rest) a w := by
  rcases owns_form hown with ⟨rfl, rfl, rfl⟩ | ⟨g, cap, rfl, hg1, hg2, hg3, hg4⟩
  · have hr := run_append_owned_none (P := P) w w.heap.size t o.type e i size ht hi (.slice none 0 0) 0 [] (World.ownsRow_nil _ _ _ _)
    refine wpList_plain hgd fun _ hK => ?_
    unfold Oper.wp execOp
    simp only [ho, resolve, invoke, builtin, Sem.run_bind, Sem.run_pure, Result.andThen_ok, List.map_toArray, List.map_cons, List.map_nil, hx, show a.eval (.const (.slice none 0 0)) = .slice none 0 0 from rfl, hr]
    exact hK _ _ (h 0 none w (World.ownsRow_nil _ _ _ _) (World.grownBy.refl _ _) (fun _ _ => ⟨rfl, rfl⟩))
  · refine wpList_append_own _ hgd (.const (.slice none 0 0)) x t ho w.heap.size e i z size bytes ht hi hz hsize hby hzs hsz (.slice none 0 0) 0 [] rfl (World.ownsRow_nil _ _ _ _) ⟨g, 0, none⟩ n cap xs hx hlen (hown.cells (g := g) rfl) h1 (by omega) (by rw [Nat.zero_add]; exact hbytes) (Nat.le_refl _) ?_
    intro v' w' h2 h3 h4
    rw [Nat.zero_add, List.nil_append] at h2
    obtain ⟨a', c', rfl⟩ := owns_slice h2
    exact h c' a' w' h2 h3 (fun _ hh => by cases hh)

set_option maxRecDepth 100000 in
theorem received_any (pb B n : Nat) (ra : Option Addr) (rc : Nat) (xs : List Value) (w : World) (hb : w.heap[pb]? = some (poolObj 0 (.slice ra n rc))) (hown : w.ownsRow B 35 9 (.slice ra n rc) n xs) (h1 : ∀ u ∈ xs, u.oneCell' = true) (hn : n ≤ 1024) :
    Calls Yba.prog 6 #[.pointer (some ⟨pb, 0, none⟩)] w fun e w' => ∃ ga gc, e = .returned (.slice ga n gc) ∧ w'.ownsRow w.heap.size 35 9 (.slice ga n gc) n xs ∧ (n = 0 → Value.slice ra n rc = .slice none 0 0 → ga = none ∧ gc = 0) ∧ Chg (fun _ => False) w w' := by
  obtain ⟨i35, hi35, hz35, hs35, hy35⟩ := info_parts Yba.info35
  obtain ⟨hc5, hc7, hf⟩ := pool_cells hb
  have hlk := pool_lock hb 1
  obtain ⟨kc5, kc7, kf⟩ := pool_cells hlk
  have hf5 := hf 5
  have hap : (Value.slice ra n rc).ownBlock ≠ some pb := row_apart hown hb (by decide)
  have HO1 : Hid ((w.setCell ⟨pb, 5, none⟩ (.int .i32 1)).ownsRow B 35 9 (.slice ra n rc) n xs) := owns_setCell hown hap _
  have HL := show Hid ((w.setCell ⟨pb, 5, none⟩ (.int .i32 1)).heap[pb]? = some (poolObj 1 (.slice ra n rc))) from hlk
  have HB := show Hid (w.heap[pb]? = some (poolObj 0 (.slice ra n rc))) from hb
  have hlen := hown.1
  clear hb hlk hown hap
  go_enter_defers Yba.func6, Yba.ntmps6
  go_wp2_with (first
    | (go_at_call 13; refine (lock_free Yba.muLib ⟨pb, 5, none⟩ _ hc5 hf5).mono ?_; rintro e w' ⟨rfl, rfl⟩)
    | (at_builtin; refine wpList_clone rfl (.tmp 13) 25 rfl 35 i35 _ 9 104 Yba.underlying25 hi35 hz35 hs35 hy35 rfl (by decide) B _ n xs rfl HO1.out h1 hlen (by unfold maxLen; omega) (by omega) ?_; intro c' a' w2 hown2 hgrow2 hnil2))
  have hb2 : w2.heap[pb]? = some (poolObj 1 (.slice ra n rc)) := (hgrow2.block pb (lt_of_blk HL.out) (by simp)).trans HL.out
  obtain ⟨jc5, jc7, jf⟩ := pool_cells hb2
  refine leaves_cons (f := 14) (args := #[.pointer (some ⟨pb, 5, none⟩)]) (by simp) (by simp [go_sem]) ?_
  refine (unlock_deferred Yba.muLib ⟨pb, 5, none⟩ .returning _ jc5 (jf 5)).mono ?_
  rintro e u' w3 ⟨rfl, rfl, rfl⟩
  have hs2 : w.heap.size ≤ w2.heap.size := by have := hgrow2.size; simpa [World.setCell] using this
  have hsz : (w.setCell ⟨pb, 5, none⟩ (.int .i32 1)).heap.size = w.heap.size := by simp [World.setCell]
  rw [hsz] at hown2
  refine ⟨_, results_tmp rfl _ _ _, a', c', rfl, owns_setCell hown2 (fun h => ?_) _, hnil2, ?_⟩
  · have := (owns_lt hown2 pb h).1
    have := lt_of_blk HB.out
    omega
  · refine Chg.fix ((((Chg.refl (fun k => k = pb) w).setCell (p := ⟨pb, 5, none⟩) (fun _ => rfl) _).grown hgrow2 (fun k h => by cases h)).setCell (p := ⟨pb, 5, none⟩) (fun _ => rfl) _) ?_
    exact (pool_lock hb2 0).trans HB.out.symm
end Go.Proofs.Ybulkbtya
