import Derived.Test.YbulkbtyaKit
import Derived.Deep.RegionHeld3
/- A region that draws its order, loads cells and stores into them at its end: a load may be taken first where nobody that could come ahead of it writes its cell. The condition S is asked behind those operations alone that do not wait for the load. -/
namespace Go.Proofs.Ybulkbtya
open Go.RowKit

section
variable {P : Program} {ops : Array Oper} {Q : Exit → Act → World → Prop} {md : Region.Mode} {S : World → Prop} {T : Nat → World → Prop}

/-- Whatever order is picked from here on, and 'T i' holds behind operation i. -/
def wpAnyJ (P : Program) (md : Region.Mode) (ops : Array Oper) (Q : Exit → Act → World → Prop) (T : Nat → World → Prop) : Nat → Array Bool → Act → World → Prop
  | 0, listed, a, w => Region.ready md ops listed = [] ∧ Q .normal a w
  | fuel + 1, listed, a, w =>
    (Region.ready md ops listed = [] → Q .normal a w) ∧
    ∀ i ∈ Region.ready md ops listed, wpOp P ops Q i (fun a' w' => T i w' ∧ wpAnyJ P md ops Q T fuel (listed.setIfInBounds i true) a' w') a w

theorem wpAny_ofJ : ∀ (fuel : Nat) (listed : Array Bool) (a : Act) (w : World), wpAnyJ P md ops Q T fuel listed a w → wpAny P md ops Q fuel listed a w
  | 0, _, _, _, h => h
  | fuel + 1, _, _, _, h => ⟨h.1, fun i hi => wpOp_mono (fun a' w' h' => wpAny_ofJ fuel _ a' w' h'.2) (h.2 i hi)⟩

theorem wpAnyJ_first {i : Nat} {oi : Oper} {v : Value} (hi : ops[i]? = some oi) (hsel : ∀ (j : Nat) (o : Oper) cs b, ops[j]? = some o → o.op ≠ .select cs b)
    (hQ : ∀ c a w, Q (.panic c) (a.put oi.dst v) w → Q (.panic c) a w)
    (hTi : ∀ w, S w → T i w) :
    ∀ (fuel : Nat) (listed : Array Bool) (a : Act) (w : World),
      (∀ j oj, ops[j]? = some oj → j ≠ i → listed.getD j true = false → (∀ e ∈ oj.after, Region.binds md e = true → e.on ≠ i) → oi.apart ops oj = true ∧ ∀ w, T j w → S w) →
      i ∈ Region.ready md ops listed → YieldsIf P ops S oi v a → S w →
      wpAnyJ P md ops Q T fuel (listed.setIfInBounds i true) (a.put oi.dst v) w → wpAnyJ P md ops Q T (fuel + 1) listed a w := by
  intro fuel
  induction fuel with
  | zero =>
    intro listed a w _ hr hy hS H
    refine ⟨fun h => (by rw [h] at hr; cases hr), fun j hj => ?_⟩
    by_cases hji : j = i
    · subst hji; exact hy.wpOp hi hS ⟨hTi w hS, H⟩
    · have := ready_mono hj hji
      rw [H.1] at this
      cases this
  | succ fuel ih =>
    intro listed a w hfree hr hy hS H
    refine ⟨fun h => (by rw [h] at hr; cases hr), fun j hj => ?_⟩
    by_cases hji : j = i
    · subst hji; exact hy.wpOp hi hS ⟨hTi w hS, H⟩
    · have h1 := H.2 j (ready_mono hj hji)
      obtain ⟨hjun, oj, hoj, hall⟩ := mem_ready.1 hj
      have hnot : ∀ e ∈ oj.after, Region.binds md e = true → e.on ≠ i := fun e he hb heq => by
        have h1 := hall e he hb
        have h0 := (mem_ready.1 hr).1
        rw [heq] at h1
        rcases Nat.lt_or_ge i listed.size with h' | h'
        · simp [h'] at h0 h1; rw [h0] at h1; cases h1
        · simp [Array.getElem?_eq_none h'] at h1
      have h2 := wpOp_putIf hoj (hfree j oj hoj hji hjun hnot).1 (fun cs b => hsel i oi cs b hi) (fun cs b => hsel j oj cs b hoj) hQ hy h1
      have hfree' : ∀ k ok, ops[k]? = some ok → k ≠ i → (listed.setIfInBounds j true).getD k true = false →
          (∀ e ∈ ok.after, Region.binds md e = true → e.on ≠ i) → oi.apart ops ok = true ∧ ∀ w, T k w → S w := fun k ok hk hki hun hno => by
        refine hfree k ok hk hki ?_ hno
        by_cases hjk : j = k
        · subst hjk; exact hjun
        · rw [getD_set_ne true hjk] at hun; exact hun
      refine wpOp_mono (fun a' w' h3 => ⟨h3.2.1, ih (listed.setIfInBounds j true) a' w' hfree' (ready_mono hr (Ne.symm hji)) h3.1 ((hfree j oj hoj hji hjun hnot).2 w' h3.2.1) ?_⟩) h2
      rw [Array.setIfInBounds_comm _ _ hji]
      exact h3.2.2

/-- Each operation that has not come up waits for i, or is one behind which S is asked. -/
def waitsOr (md : Region.Mode) (ops : Array Oper) (late : Nat → Bool) (listed : Array Bool) (i : Nat) : Bool :=
  (List.range ops.size).all fun j => listed.getD j true || j == i || !late j || (match ops[j]? with | some o => o.after.any fun e => Region.binds md e && e.on == i | none => true)

theorem waitsOr_spec {late : Nat → Bool} {listed : Array Bool} {i : Nat} (h : waitsOr md ops late listed i = true) : ∀ j oj, ops[j]? = some oj → j ≠ i → listed.getD j true = false → (∀ e ∈ oj.after, Region.binds md e = true → e.on ≠ i) → late j = false := by
  intro j oj hj hji hun hno
  unfold waitsOr at h
  rw [List.all_eq_true] at h
  have hlt : j < ops.size := (Array.getElem?_eq_some_iff.1 hj).1
  have hj2 := h j (by simpa using hlt)
  rw [hj, hun] at hj2
  simp only at hj2
  cases hl : late j with
  | false => rfl
  | true =>
    rw [hl, show (j == i) = false from by simp [hji]] at hj2
    simp only [Bool.not_true, Bool.false_or, Array.any_eq_true] at hj2
    obtain ⟨x, hx, hb⟩ := hj2
    rw [Bool.and_eq_true] at hb
    exact absurd (by simpa using hb.2) (hno oj.after[x] (Array.getElem_mem hx) hb.1)

/-- S behind those operations that are not late. -/
def Early (late : Nat → Bool) (S : World → Prop) (i : Nat) (w : World) : Prop := late i = true ∨ S w

theorem wpAnyJ_take {late : Nat → Bool} {i : Nat} {oi : Oper} {v : Value} {fuel : Nat} {listed : Array Bool} {a : Act} {w : World} (hi : ops[i]? = some oi)
    (hs : Region.noSelect ops = true) (hf : Region.free md ops listed i = true) (hr : (Region.ready md ops listed).contains i = true) (hl : waitsOr md ops late listed i = true)
    (hQ : ∀ c a w, Q (.panic c) (a.put oi.dst v) w → Q (.panic c) a w) (hy : YieldsIf P ops S oi v a) (hS : S w)
    (h : wpAnyJ P md ops Q (Early late S) fuel (listed.setIfInBounds i true) (a.put oi.dst v) w) : wpAnyJ P md ops Q (Early late S) (fuel + 1) listed a w :=
  wpAnyJ_first hi (Region.noSelect_spec hs) hQ (fun _ h => Or.inr h)
    fuel listed a w (fun j oj h1 h2 h3 h4 => ⟨Region.free_spec hi hf j oj h1 h2 h3 h4, fun w ht => ht.elim (fun h => by rw [waitsOr_spec hl j oj h1 h2 h3 h4] at h; cases h) id⟩) (by simpa using hr) hy hS h

/-- .. an operation that looks at no world. -/
theorem wpAnyJ_pure {late : Nat → Bool} {i : Nat} {oi : Oper} {v : Value} {fuel : Nat} {listed : Array Bool} {a : Act} {w : World} (hi : ops[i]? = some oi)
    (hs : Region.noSelect ops = true) (hf : Region.free md ops listed i = true) (hr : (Region.ready md ops listed).contains i = true) (hl : late i = true)
    (hQ : ∀ c a w, Q (.panic c) (a.put oi.dst v) w → Q (.panic c) a w) (hy : YieldsIf P ops (fun _ => True) oi v a)
    (h : wpAnyJ P md ops Q (Early late S) fuel (listed.setIfInBounds i true) (a.put oi.dst v) w) : wpAnyJ P md ops Q (Early late S) (fuel + 1) listed a w :=
  wpAnyJ_first (S := fun _ => True) hi (Region.noSelect_spec hs) hQ (fun _ _ => Or.inl hl)
    fuel listed a w (fun j oj h1 h2 h3 h4 => ⟨Region.free_spec hi hf j oj h1 h2 h3 h4, fun _ _ => trivial⟩) (by simpa using hr) hy trivial h

theorem wpAnyJ_done {listed : Array Bool} {a : Act} {w : World} (hr : Region.ready md ops listed = []) (h : Q .normal a w) :
    ∀ fuel, wpAnyJ P md ops Q T fuel listed a w
  | 0 => ⟨hr, h⟩
  | _ + 1 => ⟨fun _ => h, by rw [hr]; simp⟩

/-- Each of the operations 'rs' comes up next. -/
def AllReadyJ (P : Program) (md : Region.Mode) (ops : Array Oper) (Q : Exit → Act → World → Prop) (T : Nat → World → Prop) (fuel : Nat) (listed : Array Bool) (a : Act) (w : World) (rs : List Nat) : Prop :=
  ∀ i ∈ rs, wpOp P ops Q i (fun a' w' => T i w' ∧ wpAnyJ P md ops Q T fuel (listed.setIfInBounds i true) a' w') a w

theorem AllReadyJ.nil {fuel : Nat} {listed : Array Bool} {a : Act} {w : World} : AllReadyJ P md ops Q T fuel listed a w [] := fun _ h => by cases h

theorem AllReadyJ.cons {fuel : Nat} {listed : Array Bool} {a : Act} {w : World} {i : Nat} {o : Oper} {rs : List Nat} (ho : ops[i]? = some o)
    (h : ∀ K' : Act → World → Prop, Shut (∀ a w, T i w → wpAnyJ P md ops Q T fuel (listed.setIfInBounds i true) a w → K' a w) → if Region.wanted o (yielded ops a.tmps) = true then Oper.wp P o a w K' Q else K' (a.put o.dst undef) w)
    (hs : AllReadyJ P md ops Q T fuel listed a w rs) : AllReadyJ P md ops Q T fuel listed a w (i :: rs) := fun j hj => by
  rcases List.mem_cons.1 hj with rfl | hj
  · exact wpOp_step ho (fun K' hK => h K' (fun a w hS hW => hK a w ⟨hS, hW⟩))
  · exact hs j hj

theorem wpAnyJ_ready {rs : List Nat} {fuel : Nat} {listed : Array Bool} {a : Act} {w : World} (hr : Region.ready md ops listed = rs) (hne : rs ≠ [])
    (h : AllReadyJ P md ops Q T fuel listed a w rs) : wpAnyJ P md ops Q T (fuel + 1) listed a w :=
  ⟨fun h0 => absurd (hr ▸ h0) hne, hr ▸ h⟩

/-- What an operation is, without its place in the text. -/
def shape (ops : Array Oper) (i : Nat) : Option (Option Tmp × Op × Option (Nat × Bool)) := (ops[i]?).map fun o => (o.dst, o.op, o.guard)

theorem shape_spec {i : Nat} {d : Option Tmp} {op : Op} {g : Option (Nat × Bool)} (h : shape ops i = some (d, op, g)) : ∃ o, ops[i]? = some o ∧ o.dst = d ∧ o.op = op ∧ o.guard = g := by
  unfold shape at h
  obtain ⟨o, ho, he⟩ := Option.map_eq_some_iff.1 h
  simp only [Prod.mk.injEq] at he
  exact ⟨o, ho, he.1, he.2.1, he.2.2⟩

/-- Take number i first. -/
theorem takeJ {late : Nat → Bool} (i : Nat) (d : Option Tmp) (op : Op) (v : Value) {fuel : Nat} {listed : Array Bool} {a : Act} {w : World} (hi : shape ops i = some (d, op, none))
    (hs : Region.noSelect ops = true) (hf : Region.free md ops listed i = true) (hr : (Region.ready md ops listed).contains i = true) (hl : waitsOr md ops late listed i = true)
    (hQ : ∀ c a w, Q (.panic c) (a.put d v) w → Q (.panic c) a w) (hS : S w)
    (hy : ∀ o : Oper, o.op = op → ∀ w, S w → (execOp a.eval o).run P w = .ok (.value v) w)
    (h : wpAnyJ P md ops Q (Early late S) fuel (listed.setIfInBounds i true) (a.put d v) w) : wpAnyJ P md ops Q (Early late S) (fuel + 1) listed a w := by
  obtain ⟨o, ho, rfl, hop, hg⟩ := shape_spec hi
  exact wpAnyJ_take ho hs hf hr hl hQ (Or.inl ⟨by simp [Region.wanted, hg], hy o hop⟩) hS h

theorem takeP {late : Nat → Bool} (i : Nat) (d : Option Tmp) (op : Op) (v : Value) {fuel : Nat} {listed : Array Bool} {a : Act} {w : World} (hi : shape ops i = some (d, op, none))
    (hs : Region.noSelect ops = true) (hf : Region.free md ops listed i = true) (hr : (Region.ready md ops listed).contains i = true) (hl : late i = true)
    (hQ : ∀ c a w, Q (.panic c) (a.put d v) w → Q (.panic c) a w)
    (hy : ∀ o : Oper, o.op = op → ∀ w, (execOp a.eval o).run P w = .ok (.value v) w)
    (h : wpAnyJ P md ops Q (Early late S) fuel (listed.setIfInBounds i true) (a.put d v) w) : wpAnyJ P md ops Q (Early late S) (fuel + 1) listed a w := by
  obtain ⟨o, ho, rfl, hop, hg⟩ := shape_spec hi
  exact wpAnyJ_pure ho hs hf hr hl hQ (Or.inl ⟨by simp [Region.wanted, hg], fun w _ => hy o hop w⟩) h

theorem stepJ {late : Nat → Bool} (i : Nat) (d : Option Tmp) (op : Op) {fuel : Nat} {listed : Array Bool} {a : Act} {w : World} {rs : List Nat} (hi : shape ops i = some (d, op, none))
    (h : ∀ o : Oper, o.op = op → o.dst = d → ∀ K' : Act → World → Prop, Shut (∀ a w, Early late S i w → wpAnyJ P md ops Q (Early late S) fuel (listed.setIfInBounds i true) a w → K' a w) → Oper.wp P o a w K' Q)
    (hs : AllReadyJ P md ops Q (Early late S) fuel listed a w rs) : AllReadyJ P md ops Q (Early late S) fuel listed a w (i :: rs) := by
  obtain ⟨o, ho, hd, hop, hg⟩ := shape_spec hi
  refine AllReadyJ.cons ho (fun K' hK => ?_) hs
  rw [if_pos (by simp [Region.wanted, hg])]
  exact h o hop hd K' hK

/-- The beginning. -/
theorem wp_region_J {late : Nat → Bool} {id : Nat} {a : Act} {w : World} (hm : P.follows .mixedOrders = true)
    (h : wpAnyJ P .any ops Q (Early late S) ops.size (Array.replicate ops.size false) a w.drew) : (Code.region id ops true).wp P Q a w :=
  wp_region_any hm (wpAny_ofJ _ _ _ _ h)

end
end Go.Proofs.Ybulkbtya
