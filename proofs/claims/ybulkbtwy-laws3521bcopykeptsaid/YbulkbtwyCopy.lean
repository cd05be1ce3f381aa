import Derived.Test.YbulkbtwyAppC
set_option linter.unusedVariables false
namespace Go.Proofs.Ybulkbtwy
open Go.RowKit

/-- Nobody's. -/
def Ck.nobody (c : Ck) : Ck := { c with ow := .pointer none }

/-- The chunks while copy goes over them: the first k are nobody's. -/
def nl (cs : List Ck) (k j : Nat) (hj : j < cs.length) : Ck := if j < k then cs[j].nobody else cs[j]

theorem nl_p (cs : List Ck) (k j : Nat) (hj : j < cs.length) : (nl cs k j hj).p = cs[j].p := by unfold nl; split <;> rfl
theorem nl_base (cs : List Ck) (k j : Nat) (hj : j < cs.length) : (nl cs k j hj).base = cs[j].base := by unfold nl; split <;> rfl

/-- What copy's loop keeps. w1: the world behind the result's making. -/
structure CSt (w w1 : World) (cs : List Ck) (k : Nat) (wr : World) : Prop where
  low : ∀ j (hj : j < cs.length), CkLow wr w.heap.size (nl cs k j hj)
  chg : Chg (fun b => ∃ c ∈ cs, b = c.p) w1 wr

theorem CkLow.p_ne {w : World} {M : Nat} {a b : Ck} (ha : CkLow w M a) (hb : CkLow w M b) (h : a.base ≠ b.base) : a.p ≠ b.p := by
  obtain ⟨_, _, _, ka, _⟩ := ha
  obtain ⟨_, _, _, kb, _⟩ := hb
  intro e
  have h1 := ka.1
  have h2 := kb.1
  rw [e, h2] at h1
  simp at h1
  omega

theorem CSt.step {w w1 : World} {cs : List Ck} {k : Nat} {wr : World} (h : CSt w w1 cs k wr) (hk : k < cs.length) (hinc : List.Pairwise (fun a b : Ck => a.base < b.base) cs) :
    CSt w w1 cs (k + 1) (wr.setCell ⟨cs[k].p, 0, none⟩ (.pointer none)) := by
  have hch : Chg (fun b => b = cs[k].p) wr (wr.setCell ⟨cs[k].p, 0, none⟩ (.pointer none)) := (Chg.refl (fun b => b = cs[k].p) wr).setCell (fun _ => rfl) _
  have hkl := h.low k hk
  refine ⟨fun j hj => ?_, h.chg.setCell (p := ⟨cs[k].p, 0, none⟩) (fun _ => ⟨cs[k], List.getElem_mem hk, rfl⟩) _⟩
  by_cases hjk : j = k
  · subst hjk
    have e1 : nl cs j j hj = cs[j] := by unfold nl; rw [if_neg (by omega)]
    have e2 : nl cs (j + 1) j hj = cs[j].nobody := by unfold nl; rw [if_pos (by omega)]
    rw [e1] at hkl
    rw [e2]
    obtain ⟨hp, lv, bv, hc, hl, hb⟩ := hkl
    refine ⟨hp, lv, bv, ⟨?_, ?_⟩, hl, hb⟩
    · show (wr.setCell ⟨cs[j].p, 0, none⟩ (.pointer none)).heap[cs[j].p]? = _
      rw [heap_setCell_same wr cs[j].p 0 _ 51 _ hc.1]
      rfl
    · rcases hc.2 with ⟨a, b, d⟩ | ⟨a, b, d⟩
      · exact Or.inl ⟨a, b, hch.owns d (fun q hq e => row_apart d hc.1 (by decide) (by rw [hq, e]))⟩
      · exact Or.inr ⟨a, b, hch.owns d (fun q hq e => row_apart d hc.1 (by decide) (by rw [hq, e]))⟩
  · have e : nl cs (k + 1) j hj = nl cs k j hj := by
      unfold nl
      by_cases h1 : j < k
      · rw [if_pos h1, if_pos (by omega)]
      · rw [if_neg h1, if_neg (by omega)]
    rw [e]
    have hne : (nl cs k j hj).p ≠ (nl cs k k hk).p := by
      refine (h.low j hj).p_ne hkl ?_
      rw [nl_base, nl_base]
      rcases Nat.lt_or_gt_of_ne hjk with h1 | h1
      · have := List.pairwise_iff_getElem.1 hinc j k hj hk h1; omega
      · have := List.pairwise_iff_getElem.1 hinc k j hk hj h1; omega
    rw [nl_p cs k k hk] at hne
    obtain ⟨_, lvk, bvk, hck, _, _⟩ := hkl
    have hkb := hck.1
    rw [nl_p cs k k hk] at hkb
    obtain ⟨hp, lv, bv, hc, hl, hb⟩ := h.low j hj
    refine ⟨hp, lv, bv, hc.keep hch hne (fun q hq e => ?_) (fun q hq e => ?_), hl, hb⟩
    · obtain ⟨cur, ec⟩ := hc.lrow hq
      rw [e, hkb] at ec
      simp at ec
    · obtain ⟨cur, ec⟩ := hc.brow hq
      rw [e, hkb] at ec
      simp at ec

theorem one_ptrs (cs : List Ck) : ∀ u ∈ ptrs cs, u.oneCell' = true := by
  intro u hu
  simp only [ptrs, List.mem_map] at hu
  obtain ⟨o, _, rfl⟩ := hu
  rfl
theorem one_bases (cs : List Ck) : ∀ u ∈ bases cs, u.oneCell' = true := by
  intro u hu
  simp only [bases, List.mem_map] at hu
  obtain ⟨o, _, rfl⟩ := hu
  rfl

def CopyPost (w : World) (N n : Nat) (cs : List Ck) (e : Ending) (w' : World) : Prop :=
  ∃ a1 c1 a2 c2, e = .returned (.agg #[.slice a1 N c1, .slice a2 N c2, .int .i64 (n : Int)]) ∧ w'.ownsRow w.heap.size 47 1 (.slice a1 N c1) N (ptrs cs) ∧ w'.ownsRow w.heap.size 21 1 (.slice a2 N c2) N (bases cs) ∧
    (∀ j (hj : j < cs.length), CkLow w' w.heap.size cs[j].nobody) ∧ Chg (fun b => ∃ c ∈ cs, b = c.p) w w'

theorem copy_end {w wr w2 w3 : World} {N n : Nat} {cs : List Ck} {a1 a2 : Option Addr} {c1 c2 : Nat} (hN : cs.length = N) (C : CSt w (w.alloc (.cells #[.slice none 0 0, .slice none 0 0, .int .i64 0] 39)) cs cs.length wr)
    (hr : wr.heap[w.heap.size]? = some (.cells #[.slice none 0 0, .slice none 0 0, .int .i64 0] 39 (0, 0)))
    (g2 : Chg (fun _ => False) wr w2) (g3 : Chg (fun _ => False) w2 w3) (h47 : w2.ownsRow wr.heap.size 47 1 (.slice a1 N c1) N (ptrs cs)) (h21 : w3.ownsRow w2.heap.size 21 1 (.slice a2 N c2) N (bases cs)) :
    CopyPost w N n cs (.returned (.agg #[.slice a1 N c1, .slice a2 N c2, .int .i64 (n : Int)])) (((w3.setCell ⟨w.heap.size, 0, none⟩ (.slice a1 N c1)).setCell ⟨w.heap.size, 1, none⟩ (.slice a2 N c2)).setCell ⟨w.heap.size, 2, none⟩ (.int .i64 (n : Int))) := by
  have hsr := C.chg.size
  rw [World.size_alloc] at hsr
  have hs2 := g2.size
  have hs3 := g3.size
  have g23 : Chg (fun _ => False) wr w3 := g2.trans g3
  have hend : Chg (fun b => b = w.heap.size) w3 (((w3.setCell ⟨w.heap.size, 0, none⟩ (.slice a1 N c1)).setCell ⟨w.heap.size, 1, none⟩ (.slice a2 N c2)).setCell ⟨w.heap.size, 2, none⟩ (.int .i64 (n : Int))) :=
    (((Chg.refl (fun b => b = w.heap.size) w3).setCell (fun _ => rfl) _).setCell (fun _ => rfl) _).setCell (fun _ => rfl) _
  have hall : Chg (fun b => b = w.heap.size) wr (((w3.setCell ⟨w.heap.size, 0, none⟩ (.slice a1 N c1)).setCell ⟨w.heap.size, 1, none⟩ (.slice a2 N c2)).setCell ⟨w.heap.size, 2, none⟩ (.int .i64 (n : Int))) :=
    g23.either hend (fun _ _ h => h.elim) (fun _ _ h => h)
  refine ⟨a1, c1, a2, c2, rfl, ?_, ?_, ?_, ?_⟩
  · refine hend.owns (g3.owns (owns_base h47 (fun k hk => by have := (owns_lt h47 k hk).1; omega)) (fun _ _ h => h)) (fun k hk h => ?_)
    have := (owns_lt h47 k hk).1
    omega
  · refine hend.owns (owns_base h21 (fun k hk => by have := (owns_lt h21 k hk).1; omega)) (fun k hk h => ?_)
    have := (owns_lt h21 k hk).1
    omega
  · intro j hj
    have h := C.low j hj
    have e : nl cs cs.length j hj = cs[j].nobody := by unfold nl; rw [if_pos hj]
    rw [e] at h
    exact h.keep hall (fun k hk hs => by omega)
  · have hw1 : Chg (fun _ => False) w (w.alloc (.cells #[.slice none 0 0, .slice none 0 0, .int .i64 0] 39)) := (Chg.refl _ w).alloc _
    exact (hw1.either C.chg (U := fun b => ∃ c ∈ cs, b = c.p) (fun _ _ h => h.elim) (fun _ _ h => h)).either hall (fun _ _ h => h) (fun k hk h => by omega)

set_option maxRecDepth 100000 in
set_option maxHeartbeats 2000000 in
theorem copy_zero (kb B n cc sc : Nat) (ca sa : Option Addr) (cs : List Ck) (w : World) (hn : n ≤ 1000000) (hN : cs.length = 0)
    (hblk : w.heap[kb]? = some (.cells #[.slice ca 0 cc, .slice sa 0 sc, .int .i64 (n : Int)] 39 (0, 0)))
    (hch : w.ownsRow B 47 1 (.slice ca 0 cc) 0 (ptrs cs)) (hbs : w.ownsRow B 21 1 (.slice sa 0 sc) 0 (bases cs))
    (hlow : ∀ j (hj : j < cs.length), CkLow w w.heap.size cs[j]) (hinc : List.Pairwise (fun a b : Ck => a.base < b.base) cs) :
    Calls Yba.prog 11 #[.pointer (some ⟨kb, 0, none⟩)] w (CopyPost w 0 n cs) := by
  obtain ⟨i47, hi47, hz47, hs47, hy47⟩ := info_parts Yba.info47
  obtain ⟨i21, hi21, hz21, hs21, hy21⟩ := info_parts Yba.info21'
  have hkl := lt_of_blk hblk
  have hw1 : Chg (fun _ => False) w (w.alloc (.cells #[.slice none 0 0, .slice none 0 0, .int .i64 0] 39)) := (Chg.refl _ w).alloc _
  have hnotin : ∀ {T : TypeId} {cur : Array Value} {b : Nat}, w.heap[b]? = some (.cells cur T (0, 0)) → T ≠ 51 → ¬ ∃ c ∈ cs, b = c.p := fun {T cur b} hb hT h => by
    obtain ⟨c, hc, rfl⟩ := h
    obtain ⟨j, hj, rfl⟩ := List.getElem_of_mem hc
    obtain ⟨_, lv, bv, hk, _⟩ := hlow j hj
    rw [hk.1] at hb
    simp only [Option.some.injEq, Obj.cells.injEq] at hb
    exact hT hb.2.1.symm
  have HKEEP : Hid (∀ X, Chg (fun b => ∃ c ∈ cs, b = c.p) (w.alloc (.cells #[.slice none 0 0, .slice none 0 0, .int .i64 0] 39)) X →
      X.heap[kb]? = some (.cells #[.slice ca 0 cc, .slice sa 0 sc, .int .i64 (n : Int)] 39 (0, 0)) ∧ X.ownsRow B 47 1 (.slice ca 0 cc) 0 (ptrs cs) ∧ X.ownsRow B 21 1 (.slice sa 0 sc) 0 (bases cs) ∧
      X.heap[w.heap.size]? = some (.cells #[.slice none 0 0, .slice none 0 0, .int .i64 0] 39 (0, 0))) := fun X hX => by
    refine ⟨(hX.block kb (by simp; omega) (hnotin hblk (by decide))).trans ((hw1.block kb hkl id).trans hblk), ?_, ?_, ?_⟩
    · refine hX.owns (hw1.owns hch (fun _ _ h => h)) (fun k hk => ?_)
      obtain ⟨cur, e⟩ := owns_blk hch hk
      exact hnotin e (by decide)
    · refine hX.owns (hw1.owns hbs (fun _ _ h => h)) (fun k hk => ?_)
      obtain ⟨cur, e⟩ := owns_blk hbs hk
      exact hnotin e (by decide)
    · refine (hX.block w.heap.size (by simp) (fun h => ?_)).trans (heap_alloc_new w _)
      obtain ⟨c, hc, e⟩ := h
      obtain ⟨j, hj, rfl⟩ := List.getElem_of_mem hc
      have := (hlow j hj).1
      omega
  have C0 : CSt w (w.alloc (.cells #[.slice none 0 0, .slice none 0 0, .int .i64 0] 39)) cs 0 (w.alloc (.cells #[.slice none 0 0, .slice none 0 0, .int .i64 0] 39)) :=
    ⟨fun j hj => by
      have e : nl cs 0 j hj = cs[j] := by unfold nl; rw [if_neg (by omega)]
      rw [e]
      exact (hlow j hj).keep hw1 (fun k _ h => h.elim), Chg.refl _ _⟩
  obtain ⟨z0, -, -, -⟩ := HKEEP.out _ (Chg.refl _ _)
  obtain ⟨hc0, hc1, hc2, hfz⟩ := set_cells z0
  have HN : Hid (cs.length = 0) := hN
  have HINC := show Hid (List.Pairwise (fun a b : Ck => a.base < b.base) cs) from hinc
  have HC0 := show Hid (CSt w (w.alloc (.cells #[.slice none 0 0, .slice none 0 0, .int .i64 0] 39)) cs 0 (w.alloc (.cells #[.slice none 0 0, .slice none 0 0, .int .i64 0] 39))) from C0
  clear hblk hch hbs hlow hinc hw1 hnotin C0 z0 hN
  go_enter Yba.func11, Yba.ntmps11
  go_wp2
  go_loopw [10] (fun i wr => ∃ k : Nat, k ≤ 0 ∧ i = .int .i64 k ∧ Hid (CSt w (w.alloc (.cells #[.slice none 0 0, .slice none 0 0, .int .i64 0] 39)) cs k wr)) (fun i _ => 0 - (intOf i).toNat)
  case atStart => exact ⟨0, Nat.zero_le _, rfl, HC0⟩
  case round =>
    obtain ⟨k, hk, rfl, HC⟩ := hrel
    clear HC0 hc0 hc1 hc2 hfz
    obtain ⟨hb1, hch1, hbs1, hrb⟩ := HKEEP.out _ HC.out.chg
    obtain ⟨kc0, kc1, kc2, kfz⟩ := set_cells hb1
    have hkr := lt_of_blk hb1
    have HCH : Hid (wr.ownsRow B 47 1 (.slice ca 0 cc) 0 (ptrs cs)) := hch1
    have HBS : Hid (wr.ownsRow B 21 1 (.slice sa 0 sc) 0 (bases cs)) := hbs1
    have HRB : Hid (wr.heap[w.heap.size]? = some (.cells #[.slice none 0 0, .slice none 0 0, .int .i64 0] 39 (0, 0))) := hrb
    clear hb1 hch1 hbs1 hrb
    obtain rfl : k = 0 := by omega
    have HC : Hid (CSt w (w.alloc (.cells #[.slice none 0 0, .slice none 0 0, .int .i64 0] 39)) cs cs.length wr) := by rw [HN.out]; exact HC
    go_wp2
    have hrl := lt_of_blk HRB.out
    have HS : Hid (∀ X, Chg (fun b => b = w.heap.size) wr X → X.cell? ⟨kb, 0, none⟩ = some (.slice ca 0 cc) ∧ X.cell? ⟨kb, 1, none⟩ = some (.slice sa 0 sc) ∧ X.cell? ⟨kb, 2, none⟩ = some (.int .i64 (n : Int))) := fun X hX =>
      ⟨(hX.cell (p := ⟨kb, 0, none⟩) hkr (Nat.ne_of_lt hkl)).trans kc0, (hX.cell (p := ⟨kb, 1, none⟩) hkr (Nat.ne_of_lt hkl)).trans kc1, (hX.cell (p := ⟨kb, 2, none⟩) hkr (Nat.ne_of_lt hkl)).trans kc2⟩
    have H0 : Chg (fun b => b = w.heap.size) wr wr := Chg.refl _ _
    have HF : Chg (fun _ => False) wr wr := Chg.refl _ _
    refine wp_region_J (late := fun j => j == 0 || j == 1 || j == 2 || j == 5 || j == 6 || j == 7 || j == 10 || j == 11 || j == 12) (S := fun X => X.cell? ⟨kb, 0, none⟩ = some (.slice ca 0 cc) ∧ X.cell? ⟨kb, 1, none⟩ = some (.slice sa 0 sc) ∧ X.cell? ⟨kb, 2, none⟩ = some (.int .i64 (n : Int))) (by kernel_rfl) ?_
    refine takeP 0 (some 18) (.move (.tmp 0)) (.pointer (some ⟨kb, 0, none⟩)) (by kernel_rfl) (by kernel_rfl) (by kernel_rfl) (by kernel_rfl) (by kernel_rfl) (fun _ _ _ h => h) ?_ ?_
    · intro o ho x
      unfold execOp
      rw [ho]
      go_simp
    simp only [Act.put, List.setIfInBounds_toArray, List.set_cons_zero, List.set_cons_succ]
    refine takeP 1 (some 19) (.nilCheck (.tmp 18)) (.pointer (some ⟨kb, 0, none⟩)) (by kernel_rfl) (by kernel_rfl) (by kernel_rfl) (by kernel_rfl) (by kernel_rfl) (fun _ _ _ h => h) ?_ ?_
    · intro o ho x
      unfold execOp
      rw [ho]
      go_simp
    simp only [Act.put, List.setIfInBounds_toArray, List.set_cons_zero, List.set_cons_succ]
    refine takeP 2 (some 20) (.fieldAddr 39 (.tmp 19) 0) (.pointer (some ⟨kb, 0, none⟩)) (by kernel_rfl) (by kernel_rfl) (by kernel_rfl) (by kernel_rfl) (by kernel_rfl) (fun _ _ _ h => h) ?_ ?_
    · intro o ho x
      unfold execOp
      rw [ho]
      go_simp
    simp only [Act.put, List.setIfInBounds_toArray, List.set_cons_zero, List.set_cons_succ]
    refine takeP 5 (some 23) (.move (.tmp 0)) (.pointer (some ⟨kb, 0, none⟩)) (by kernel_rfl) (by kernel_rfl) (by kernel_rfl) (by kernel_rfl) (by kernel_rfl) (fun _ _ _ h => h) ?_ ?_
    · intro o ho x
      unfold execOp
      rw [ho]
      go_simp
    simp only [Act.put, List.setIfInBounds_toArray, List.set_cons_zero, List.set_cons_succ]
    refine takeP 6 (some 24) (.nilCheck (.tmp 23)) (.pointer (some ⟨kb, 0, none⟩)) (by kernel_rfl) (by kernel_rfl) (by kernel_rfl) (by kernel_rfl) (by kernel_rfl) (fun _ _ _ h => h) ?_ ?_
    · intro o ho x
      unfold execOp
      rw [ho]
      go_simp
    simp only [Act.put, List.setIfInBounds_toArray, List.set_cons_zero, List.set_cons_succ]
    refine takeP 7 (some 25) (.fieldAddr 39 (.tmp 24) 1) (.pointer (some ⟨kb, 1, none⟩)) (by kernel_rfl) (by kernel_rfl) (by kernel_rfl) (by kernel_rfl) (by kernel_rfl) (fun _ _ _ h => h) ?_ ?_
    · intro o ho x
      unfold execOp
      rw [ho]
      go_simp
    simp only [Act.put, List.setIfInBounds_toArray, List.set_cons_zero, List.set_cons_succ]
    refine takeP 10 (some 28) (.move (.tmp 0)) (.pointer (some ⟨kb, 0, none⟩)) (by kernel_rfl) (by kernel_rfl) (by kernel_rfl) (by kernel_rfl) (by kernel_rfl) (fun _ _ _ h => h) ?_ ?_
    · intro o ho x
      unfold execOp
      rw [ho]
      go_simp
    simp only [Act.put, List.setIfInBounds_toArray, List.set_cons_zero, List.set_cons_succ]
    refine takeP 11 (some 29) (.nilCheck (.tmp 28)) (.pointer (some ⟨kb, 0, none⟩)) (by kernel_rfl) (by kernel_rfl) (by kernel_rfl) (by kernel_rfl) (by kernel_rfl) (fun _ _ _ h => h) ?_ ?_
    · intro o ho x
      unfold execOp
      rw [ho]
      go_simp
    simp only [Act.put, List.setIfInBounds_toArray, List.set_cons_zero, List.set_cons_succ]
    refine takeP 12 (some 30) (.fieldAddr 39 (.tmp 29) 2) (.pointer (some ⟨kb, 2, none⟩)) (by kernel_rfl) (by kernel_rfl) (by kernel_rfl) (by kernel_rfl) (by kernel_rfl) (fun _ _ _ h => h) ?_ ?_
    · intro o ho x
      unfold execOp
      rw [ho]
      go_simp
    simp only [Act.put, List.setIfInBounds_toArray, List.set_cons_zero, List.set_cons_succ]
    refine takeJ 3 (some 21) (.load 37 (.tmp 20)) (.slice ca 0 cc) (by kernel_rfl) (by kernel_rfl) (by kernel_rfl) (by kernel_rfl) (by kernel_rfl) (fun _ _ _ h => h) (HS.out _ H0.drew) ?_ ?_
    · intro o ho x hx
      obtain ⟨hx1, hx2, hx3⟩ := hx
      unfold execOp
      rw [ho]
      go_simp
    simp only [Act.put, List.setIfInBounds_toArray, List.set_cons_zero, List.set_cons_succ]
    refine takeJ 8 (some 26) (.load 22 (.tmp 25)) (.slice sa 0 sc) (by kernel_rfl) (by kernel_rfl) (by kernel_rfl) (by kernel_rfl) (by kernel_rfl) (fun _ _ _ h => h) (HS.out _ H0.drew) ?_ ?_
    · intro o ho x hx
      obtain ⟨hx1, hx2, hx3⟩ := hx
      unfold execOp
      rw [ho]
      go_simp
    simp only [Act.put, List.setIfInBounds_toArray, List.set_cons_zero, List.set_cons_succ]
    refine takeJ 13 (some 31) (.load 3 (.tmp 30)) (.int .i64 (n : Int)) (by kernel_rfl) (by kernel_rfl) (by kernel_rfl) (by kernel_rfl) (by kernel_rfl) (fun _ _ _ h => h) (HS.out _ H0.drew) ?_ ?_
    · intro o ho x hx
      obtain ⟨hx1, hx2, hx3⟩ := hx
      unfold execOp
      rw [ho]
      go_simp
    simp only [Act.put, List.setIfInBounds_toArray, List.set_cons_zero, List.set_cons_succ]
    refine wpAnyJ_ready (rs := [4]) (by kernel_rfl) (by simp) ?_
    refine stepJ 4 (some 22) (.call { callee := .builtin .append, args := #[.const (.slice none 0 0), .tmp 21], argTypes := #[37, 37] }) (by kernel_rfl) (fun o ho hd K hK => ?_) AllReadyJ.nil
    refine wp_append_clone (.tmp 21) 37 ho 47 i47 (.pointer none) 8 Yba.underlying37 hi47 hz47 hs47 hy47 rfl B (.slice ca 0 cc) 0 (ptrs cs) rfl HCH.out (one_ptrs cs) (by unfold maxLen; omega) (by omega) ?_
    intro c1 a1 w2 hl1 hg1 hnl
    rw [hd]
    have H2 : Hid (Chg (fun _ => False) wr w2) := HF.drew.grown hg1 (fun k h _ => by cases h)
    have HL1 : Hid (w2.ownsRow wr.heap.size 47 1 (.slice a1 0 c1) 0 (ptrs cs)) := hl1
    clear hl1 hg1 hnl
    refine hK.out _ _ (Or.inr (HS.out _ (H2.out.mono (fun _ _ h => h.elim)))) ?_
    clear hK K ho hd o
    simp only [Act.put, List.setIfInBounds_toArray, List.set_cons_zero, List.set_cons_succ]
    refine wpAnyJ_ready (rs := [9]) (by kernel_rfl) (by simp) ?_
    refine stepJ 9 (some 27) (.call { callee := .builtin .append, args := #[.const (.slice none 0 0), .tmp 26], argTypes := #[22, 22] }) (by kernel_rfl) (fun o ho hd K hK => ?_) AllReadyJ.nil
    refine wp_append_clone (.tmp 26) 22 ho 21 i21 (.int .i32 0) 4 Yba.underlying22 hi21 hz21 hs21 hy21 rfl B (.slice sa 0 sc) 0 (bases cs) rfl (H2.out.owns HBS.out (fun _ _ h => h)) (one_bases cs) (by unfold maxLen; omega) (by omega) ?_
    intro c2 a2 w3 hl2 hg2 hnb
    rw [hd]
    have H23 : Hid (Chg (fun _ => False) w2 w3) := (Chg.refl _ w2).grown hg2 (fun k h _ => by cases h)
    have H3 : Hid (Chg (fun _ => False) wr w3) := H2.out.trans H23.out
    have HL2 : Hid (w3.ownsRow w2.heap.size 21 1 (.slice a2 0 c2) 0 (bases cs)) := hl2
    clear hl2 hg2 hnb
    refine hK.out _ _ (Or.inr (HS.out _ (H3.out.mono (fun _ _ h => h.elim)))) ?_
    clear hK K ho hd o
    simp only [Act.put, List.setIfInBounds_toArray, List.set_cons_zero, List.set_cons_succ]
    refine takeJ 14 (some 32) (.build 39 #[(0, .tmp 22), (1, .tmp 27), (2, .tmp 31)]) (.agg #[.slice a1 0 c1, .slice a2 0 c2, .int .i64 (n : Int)]) (by kernel_rfl) (by kernel_rfl) (by kernel_rfl) (by kernel_rfl) (by kernel_rfl) (fun _ _ _ h => h) (HS.out _ (H3.out.mono (fun _ _ h => h.elim))) ?_ ?_
    · intro o ho x hx
      obtain ⟨hx1, hx2, hx3⟩ := hx
      unfold execOp
      rw [ho]
      go_simp
    simp only [Act.put, List.setIfInBounds_toArray, List.set_cons_zero, List.set_cons_succ]
    obtain ⟨q0, q1, q2, qf⟩ := set_cells (H3.out.cells HRB.out)
    refine wpAnyJ_ready (rs := [15]) (by kernel_rfl) (by simp) ?_
    refine stepJ 15 (none) (.store 39 (.tmp 2) (.tmp 32)) (by kernel_rfl) (fun o ho hd K hK => ?_) AllReadyJ.nil
    unfold Oper.wp execOp
    rw [ho]
    go_simp
    refine hK.out _ _ (Or.inr (HS.out _ (((( H3.out.mono (T := fun b => b = w.heap.size) (fun _ _ h => h.elim)).setCell (fun _ => rfl) _).setCell (fun _ => rfl) _).setCell (fun _ => rfl) _))) ?_
    clear hK K ho hd o
    refine wpAnyJ_done (by kernel_rfl) ?_ _
    go_wp2
    refine bodyPost_ret (v := .agg #[.slice a1 0 c1, .slice a2 0 c2, .int .i64 (n : Int)]) (by simp [results, Yba.results11, go_sem, q0, q1, q2]) rfl ?_
    exact copy_end HN.out HC.out HRB.out H2.out H23.out HL1.out HL2.out

set_option maxRecDepth 100000 in
set_option maxHeartbeats 2000000 in
theorem copy_some (kb B N gc gs n cc sc : Nat) (cs : List Ck) (w : World) (hn : n ≤ 1000000) (hN : cs.length = N) (hNl : N ≤ 1000000)
    (hblk : w.heap[kb]? = some (.cells #[.slice (some ⟨gc, 0, none⟩) N cc, .slice (some ⟨gs, 0, none⟩) N sc, .int .i64 (n : Int)] 39 (0, 0)))
    (hch : w.ownsRow B 47 1 (.slice (some ⟨gc, 0, none⟩) N cc) N (ptrs cs)) (hbs : w.ownsRow B 21 1 (.slice (some ⟨gs, 0, none⟩) N sc) N (bases cs))
    (hlow : ∀ j (hj : j < cs.length), CkLow w w.heap.size cs[j]) (hinc : List.Pairwise (fun a b : Ck => a.base < b.base) cs) :
    Calls Yba.prog 11 #[.pointer (some ⟨kb, 0, none⟩)] w (CopyPost w N n cs) := by
  obtain ⟨i47, hi47, hz47, hs47, hy47⟩ := info_parts Yba.info47
  obtain ⟨i21, hi21, hz21, hs21, hy21⟩ := info_parts Yba.info21'
  have hkl := lt_of_blk hblk
  have hw1 : Chg (fun _ => False) w (w.alloc (.cells #[.slice none 0 0, .slice none 0 0, .int .i64 0] 39)) := (Chg.refl _ w).alloc _
  have hnotin : ∀ {T : TypeId} {cur : Array Value} {b : Nat}, w.heap[b]? = some (.cells cur T (0, 0)) → T ≠ 51 → ¬ ∃ c ∈ cs, b = c.p := fun {T cur b} hb hT h => by
    obtain ⟨c, hc, rfl⟩ := h
    obtain ⟨j, hj, rfl⟩ := List.getElem_of_mem hc
    obtain ⟨_, lv, bv, hk, _⟩ := hlow j hj
    rw [hk.1] at hb
    simp only [Option.some.injEq, Obj.cells.injEq] at hb
    exact hT hb.2.1.symm
  have HKEEP : Hid (∀ X, Chg (fun b => ∃ c ∈ cs, b = c.p) (w.alloc (.cells #[.slice none 0 0, .slice none 0 0, .int .i64 0] 39)) X →
      X.heap[kb]? = some (.cells #[.slice (some ⟨gc, 0, none⟩) N cc, .slice (some ⟨gs, 0, none⟩) N sc, .int .i64 (n : Int)] 39 (0, 0)) ∧ X.ownsRow B 47 1 (.slice (some ⟨gc, 0, none⟩) N cc) N (ptrs cs) ∧ X.ownsRow B 21 1 (.slice (some ⟨gs, 0, none⟩) N sc) N (bases cs) ∧
      X.heap[w.heap.size]? = some (.cells #[.slice none 0 0, .slice none 0 0, .int .i64 0] 39 (0, 0))) := fun X hX => by
    refine ⟨(hX.block kb (by simp; omega) (hnotin hblk (by decide))).trans ((hw1.block kb hkl id).trans hblk), ?_, ?_, ?_⟩
    · refine hX.owns (hw1.owns hch (fun _ _ h => h)) (fun k hk => ?_)
      obtain ⟨cur, e⟩ := owns_blk hch hk
      exact hnotin e (by decide)
    · refine hX.owns (hw1.owns hbs (fun _ _ h => h)) (fun k hk => ?_)
      obtain ⟨cur, e⟩ := owns_blk hbs hk
      exact hnotin e (by decide)
    · refine (hX.block w.heap.size (by simp) (fun h => ?_)).trans (heap_alloc_new w _)
      obtain ⟨c, hc, e⟩ := h
      obtain ⟨j, hj, rfl⟩ := List.getElem_of_mem hc
      have := (hlow j hj).1
      omega
  have C0 : CSt w (w.alloc (.cells #[.slice none 0 0, .slice none 0 0, .int .i64 0] 39)) cs 0 (w.alloc (.cells #[.slice none 0 0, .slice none 0 0, .int .i64 0] 39)) :=
    ⟨fun j hj => by
      have e : nl cs 0 j hj = cs[j] := by unfold nl; rw [if_neg (by omega)]
      rw [e]
      exact (hlow j hj).keep hw1 (fun k _ h => h.elim), Chg.refl _ _⟩
  obtain ⟨z0, -, -, -⟩ := HKEEP.out _ (Chg.refl _ _)
  obtain ⟨hc0, hc1, hc2, hfz⟩ := set_cells z0
  have HN : Hid (cs.length = N) := hN
  have HINC := show Hid (List.Pairwise (fun a b : Ck => a.base < b.base) cs) from hinc
  have HC0 := show Hid (CSt w (w.alloc (.cells #[.slice none 0 0, .slice none 0 0, .int .i64 0] 39)) cs 0 (w.alloc (.cells #[.slice none 0 0, .slice none 0 0, .int .i64 0] 39))) from C0
  clear hblk hch hbs hlow hinc hw1 hnotin C0 z0 hN
  go_enter Yba.func11, Yba.ntmps11
  go_wp2
  go_loopw [10] (fun i wr => ∃ k : Nat, k ≤ N ∧ i = .int .i64 k ∧ Hid (CSt w (w.alloc (.cells #[.slice none 0 0, .slice none 0 0, .int .i64 0] 39)) cs k wr)) (fun i _ => N - (intOf i).toNat)
  case atStart => exact ⟨0, Nat.zero_le _, rfl, HC0⟩
  case round =>
    obtain ⟨k, hk, rfl, HC⟩ := hrel
    clear HC0 hc0 hc1 hc2 hfz
    obtain ⟨hb1, hch1, hbs1, hrb⟩ := HKEEP.out _ HC.out.chg
    obtain ⟨kc0, kc1, kc2, kfz⟩ := set_cells hb1
    have hkr := lt_of_blk hb1
    have HCH : Hid (wr.ownsRow B 47 1 (.slice (some ⟨gc, 0, none⟩) N cc) N (ptrs cs)) := hch1
    have HBS : Hid (wr.ownsRow B 21 1 (.slice (some ⟨gs, 0, none⟩) N sc) N (bases cs)) := hbs1
    have HRB : Hid (wr.heap[w.heap.size]? = some (.cells #[.slice none 0 0, .slice none 0 0, .int .i64 0] 39 (0, 0))) := hrb
    clear hb1 hch1 hbs1 hrb
    by_cases hlt : k < N
    · have hkc : k < cs.length := by rw [HN.out]; exact hlt
      have hp : wr.cell? ⟨gc, k, none⟩ = some (.pointer (some ⟨cs[k].p, 0, none⟩)) := by
        rw [HCH.out.cellAt k (by omega)]
        simp [ptrs, hkc]
      have hstep := HC.out.step hkc HINC.out
      obtain ⟨_, lv, bv, hck, _⟩ := HC.out.low k hkc
      obtain ⟨x0, x1, x2, x3, x4, xf⟩ := ck_cells hck.1
      rw [nl_p] at x0 xf
      have xf0 := xf 0
      obtain ⟨p, hpe⟩ : ∃ p, p = cs[k].p := ⟨_, rfl⟩
      rw [← hpe] at hp hstep x0 xf0
      have HST := show Hid (CSt w (w.alloc (.cells #[.slice none 0 0, .slice none 0 0, .int .i64 0] 39)) cs (k + 1) (wr.setCell ⟨p, 0, none⟩ (.pointer none))) from hstep
      clear hstep hck x1 x2 x3 x4 xf HC hpe
      go_wp2
      go_roundw
      case rel => exact ⟨k + 1, by omega, by go_num, HST⟩
      case measure => simp [intOf]; omega
    · obtain rfl : k = N := by omega
      have HC : Hid (CSt w (w.alloc (.cells #[.slice none 0 0, .slice none 0 0, .int .i64 0] 39)) cs cs.length wr) := by rw [HN.out]; exact HC
      go_wp2
      have hrl := lt_of_blk HRB.out
      have HS : Hid (∀ X, Chg (fun b => b = w.heap.size) wr X → X.cell? ⟨kb, 0, none⟩ = some (.slice (some ⟨gc, 0, none⟩) k cc) ∧ X.cell? ⟨kb, 1, none⟩ = some (.slice (some ⟨gs, 0, none⟩) k sc) ∧ X.cell? ⟨kb, 2, none⟩ = some (.int .i64 (n : Int))) := fun X hX =>
        ⟨(hX.cell (p := ⟨kb, 0, none⟩) hkr (Nat.ne_of_lt hkl)).trans kc0, (hX.cell (p := ⟨kb, 1, none⟩) hkr (Nat.ne_of_lt hkl)).trans kc1, (hX.cell (p := ⟨kb, 2, none⟩) hkr (Nat.ne_of_lt hkl)).trans kc2⟩
      have H0 : Chg (fun b => b = w.heap.size) wr wr := Chg.refl _ _
      have HF : Chg (fun _ => False) wr wr := Chg.refl _ _
      refine wp_region_J (late := fun j => j == 0 || j == 1 || j == 2 || j == 5 || j == 6 || j == 7 || j == 10 || j == 11 || j == 12) (S := fun X => X.cell? ⟨kb, 0, none⟩ = some (.slice (some ⟨gc, 0, none⟩) k cc) ∧ X.cell? ⟨kb, 1, none⟩ = some (.slice (some ⟨gs, 0, none⟩) k sc) ∧ X.cell? ⟨kb, 2, none⟩ = some (.int .i64 (n : Int))) (by kernel_rfl) ?_
      refine takeP 0 (some 18) (.move (.tmp 0)) (.pointer (some ⟨kb, 0, none⟩)) (by kernel_rfl) (by kernel_rfl) (by kernel_rfl) (by kernel_rfl) (by kernel_rfl) (fun _ _ _ h => h) ?_ ?_
      · intro o ho x
        unfold execOp
        rw [ho]
        go_simp
      simp only [Act.put, List.setIfInBounds_toArray, List.set_cons_zero, List.set_cons_succ]
      refine takeP 1 (some 19) (.nilCheck (.tmp 18)) (.pointer (some ⟨kb, 0, none⟩)) (by kernel_rfl) (by kernel_rfl) (by kernel_rfl) (by kernel_rfl) (by kernel_rfl) (fun _ _ _ h => h) ?_ ?_
      · intro o ho x
        unfold execOp
        rw [ho]
        go_simp
      simp only [Act.put, List.setIfInBounds_toArray, List.set_cons_zero, List.set_cons_succ]
      refine takeP 2 (some 20) (.fieldAddr 39 (.tmp 19) 0) (.pointer (some ⟨kb, 0, none⟩)) (by kernel_rfl) (by kernel_rfl) (by kernel_rfl) (by kernel_rfl) (by kernel_rfl) (fun _ _ _ h => h) ?_ ?_
      · intro o ho x
        unfold execOp
        rw [ho]
        go_simp
      simp only [Act.put, List.setIfInBounds_toArray, List.set_cons_zero, List.set_cons_succ]
      refine takeP 5 (some 23) (.move (.tmp 0)) (.pointer (some ⟨kb, 0, none⟩)) (by kernel_rfl) (by kernel_rfl) (by kernel_rfl) (by kernel_rfl) (by kernel_rfl) (fun _ _ _ h => h) ?_ ?_
      · intro o ho x
        unfold execOp
        rw [ho]
        go_simp
      simp only [Act.put, List.setIfInBounds_toArray, List.set_cons_zero, List.set_cons_succ]
      refine takeP 6 (some 24) (.nilCheck (.tmp 23)) (.pointer (some ⟨kb, 0, none⟩)) (by kernel_rfl) (by kernel_rfl) (by kernel_rfl) (by kernel_rfl) (by kernel_rfl) (fun _ _ _ h => h) ?_ ?_
      · intro o ho x
        unfold execOp
        rw [ho]
        go_simp
      simp only [Act.put, List.setIfInBounds_toArray, List.set_cons_zero, List.set_cons_succ]
      refine takeP 7 (some 25) (.fieldAddr 39 (.tmp 24) 1) (.pointer (some ⟨kb, 1, none⟩)) (by kernel_rfl) (by kernel_rfl) (by kernel_rfl) (by kernel_rfl) (by kernel_rfl) (fun _ _ _ h => h) ?_ ?_
      · intro o ho x
        unfold execOp
        rw [ho]
        go_simp
      simp only [Act.put, List.setIfInBounds_toArray, List.set_cons_zero, List.set_cons_succ]
      refine takeP 10 (some 28) (.move (.tmp 0)) (.pointer (some ⟨kb, 0, none⟩)) (by kernel_rfl) (by kernel_rfl) (by kernel_rfl) (by kernel_rfl) (by kernel_rfl) (fun _ _ _ h => h) ?_ ?_
      · intro o ho x
        unfold execOp
        rw [ho]
        go_simp
      simp only [Act.put, List.setIfInBounds_toArray, List.set_cons_zero, List.set_cons_succ]
      refine takeP 11 (some 29) (.nilCheck (.tmp 28)) (.pointer (some ⟨kb, 0, none⟩)) (by kernel_rfl) (by kernel_rfl) (by kernel_rfl) (by kernel_rfl) (by kernel_rfl) (fun _ _ _ h => h) ?_ ?_
      · intro o ho x
        unfold execOp
        rw [ho]
        go_simp
      simp only [Act.put, List.setIfInBounds_toArray, List.set_cons_zero, List.set_cons_succ]
      refine takeP 12 (some 30) (.fieldAddr 39 (.tmp 29) 2) (.pointer (some ⟨kb, 2, none⟩)) (by kernel_rfl) (by kernel_rfl) (by kernel_rfl) (by kernel_rfl) (by kernel_rfl) (fun _ _ _ h => h) ?_ ?_
      · intro o ho x
        unfold execOp
        rw [ho]
        go_simp
      simp only [Act.put, List.setIfInBounds_toArray, List.set_cons_zero, List.set_cons_succ]
      refine takeJ 3 (some 21) (.load 37 (.tmp 20)) (.slice (some ⟨gc, 0, none⟩) k cc) (by kernel_rfl) (by kernel_rfl) (by kernel_rfl) (by kernel_rfl) (by kernel_rfl) (fun _ _ _ h => h) (HS.out _ H0.drew) ?_ ?_
      · intro o ho x hx
        obtain ⟨hx1, hx2, hx3⟩ := hx
        unfold execOp
        rw [ho]
        go_simp
      simp only [Act.put, List.setIfInBounds_toArray, List.set_cons_zero, List.set_cons_succ]
      refine takeJ 8 (some 26) (.load 22 (.tmp 25)) (.slice (some ⟨gs, 0, none⟩) k sc) (by kernel_rfl) (by kernel_rfl) (by kernel_rfl) (by kernel_rfl) (by kernel_rfl) (fun _ _ _ h => h) (HS.out _ H0.drew) ?_ ?_
      · intro o ho x hx
        obtain ⟨hx1, hx2, hx3⟩ := hx
        unfold execOp
        rw [ho]
        go_simp
      simp only [Act.put, List.setIfInBounds_toArray, List.set_cons_zero, List.set_cons_succ]
      refine takeJ 13 (some 31) (.load 3 (.tmp 30)) (.int .i64 (n : Int)) (by kernel_rfl) (by kernel_rfl) (by kernel_rfl) (by kernel_rfl) (by kernel_rfl) (fun _ _ _ h => h) (HS.out _ H0.drew) ?_ ?_
      · intro o ho x hx
        obtain ⟨hx1, hx2, hx3⟩ := hx
        unfold execOp
        rw [ho]
        go_simp
      simp only [Act.put, List.setIfInBounds_toArray, List.set_cons_zero, List.set_cons_succ]
      refine wpAnyJ_ready (rs := [4]) (by kernel_rfl) (by simp) ?_
      refine stepJ 4 (some 22) (.call { callee := .builtin .append, args := #[.const (.slice none 0 0), .tmp 21], argTypes := #[37, 37] }) (by kernel_rfl) (fun o ho hd K hK => ?_) AllReadyJ.nil
      refine wp_append_clone (.tmp 21) 37 ho 47 i47 (.pointer none) 8 Yba.underlying37 hi47 hz47 hs47 hy47 rfl B (.slice (some ⟨gc, 0, none⟩) k cc) k (ptrs cs) rfl HCH.out (one_ptrs cs) (by unfold maxLen; omega) (by omega) ?_
      intro c1 a1 w2 hl1 hg1 hnl
      rw [hd]
      have H2 : Hid (Chg (fun _ => False) wr w2) := HF.drew.grown hg1 (fun k h _ => by cases h)
      have HL1 : Hid (w2.ownsRow wr.heap.size 47 1 (.slice a1 k c1) k (ptrs cs)) := hl1
      clear hl1 hg1 hnl
      refine hK.out _ _ (Or.inr (HS.out _ (H2.out.mono (fun _ _ h => h.elim)))) ?_
      clear hK K ho hd o
      simp only [Act.put, List.setIfInBounds_toArray, List.set_cons_zero, List.set_cons_succ]
      refine wpAnyJ_ready (rs := [9]) (by kernel_rfl) (by simp) ?_
      refine stepJ 9 (some 27) (.call { callee := .builtin .append, args := #[.const (.slice none 0 0), .tmp 26], argTypes := #[22, 22] }) (by kernel_rfl) (fun o ho hd K hK => ?_) AllReadyJ.nil
      refine wp_append_clone (.tmp 26) 22 ho 21 i21 (.int .i32 0) 4 Yba.underlying22 hi21 hz21 hs21 hy21 rfl B (.slice (some ⟨gs, 0, none⟩) k sc) k (bases cs) rfl (H2.out.owns HBS.out (fun _ _ h => h)) (one_bases cs) (by unfold maxLen; omega) (by omega) ?_
      intro c2 a2 w3 hl2 hg2 hnb
      rw [hd]
      have H23 : Hid (Chg (fun _ => False) w2 w3) := (Chg.refl _ w2).grown hg2 (fun k h _ => by cases h)
      have H3 : Hid (Chg (fun _ => False) wr w3) := H2.out.trans H23.out
      have HL2 : Hid (w3.ownsRow w2.heap.size 21 1 (.slice a2 k c2) k (bases cs)) := hl2
      clear hl2 hg2 hnb
      refine hK.out _ _ (Or.inr (HS.out _ (H3.out.mono (fun _ _ h => h.elim)))) ?_
      clear hK K ho hd o
      simp only [Act.put, List.setIfInBounds_toArray, List.set_cons_zero, List.set_cons_succ]
      refine takeJ 14 (some 32) (.build 39 #[(0, .tmp 22), (1, .tmp 27), (2, .tmp 31)]) (.agg #[.slice a1 k c1, .slice a2 k c2, .int .i64 (n : Int)]) (by kernel_rfl) (by kernel_rfl) (by kernel_rfl) (by kernel_rfl) (by kernel_rfl) (fun _ _ _ h => h) (HS.out _ (H3.out.mono (fun _ _ h => h.elim))) ?_ ?_
      · intro o ho x hx
        obtain ⟨hx1, hx2, hx3⟩ := hx
        unfold execOp
        rw [ho]
        go_simp
      simp only [Act.put, List.setIfInBounds_toArray, List.set_cons_zero, List.set_cons_succ]
      obtain ⟨q0, q1, q2, qf⟩ := set_cells (H3.out.cells HRB.out)
      refine wpAnyJ_ready (rs := [15]) (by kernel_rfl) (by simp) ?_
      refine stepJ 15 (none) (.store 39 (.tmp 2) (.tmp 32)) (by kernel_rfl) (fun o ho hd K hK => ?_) AllReadyJ.nil
      unfold Oper.wp execOp
      rw [ho]
      go_simp
      refine hK.out _ _ (Or.inr (HS.out _ (((( H3.out.mono (T := fun b => b = w.heap.size) (fun _ _ h => h.elim)).setCell (fun _ => rfl) _).setCell (fun _ => rfl) _).setCell (fun _ => rfl) _))) ?_
      clear hK K ho hd o
      refine wpAnyJ_done (by kernel_rfl) ?_ _
      go_wp2
      refine bodyPost_ret (v := .agg #[.slice a1 k c1, .slice a2 k c2, .int .i64 (n : Int)]) (by simp [results, Yba.results11, go_sem, q0, q1, q2]) rfl ?_
      exact copy_end HN.out HC.out HRB.out H2.out H23.out HL1.out HL2.out

end Go.Proofs.Ybulkbtwy
