import Derived.Test.YbulkbtwySet
import Derived.Test.YbulkbtwyOrders
set_option linter.unusedVariables false
namespace Go.Proofs.Ybulkbtwy
open Go.RowKit

theorem Yba.info47 : (Yba.prog.info? 47).map (fun i => (i.zero, i.size, i.bytes)) = some (some (.pointer none), 1, 8) := by kernel_rfl
theorem Yba.info21' : (Yba.prog.info? 21).map (fun i => (i.zero, i.size, i.bytes)) = some (some (.int .i32 0), 1, 4) := by kernel_rfl

theorem fresh_chunk (w : World) (kb b : Nat) : CkAt (w.alloc (.cells #[.pointer (some ⟨kb, 0, none⟩), .int .i32 (b : Int), .int .i32 0, .slice none 0 0, .slice none 0 0] 51)) w.heap.size ⟨w.heap.size, .pointer (some ⟨kb, 0, none⟩), b, []⟩ (.slice none 0 0) (.slice none 0 0) :=
  ⟨heap_alloc_new w _, Or.inl ⟨by simp, rfl, World.ownsRow_nil _ _ _ _⟩⟩

theorem one_ptr (a : Option Addr) : ∀ u ∈ [Value.pointer a], u.oneCell' = true := by intro u hu; simp at hu; subst hu; rfl
theorem one_int {k : IntKind} (n : Int) : ∀ u ∈ [Value.int k n], u.oneCell' = true := by intro u hu; simp at hu; subst hu; rfl

/-- The elder of two new blocks. -/
theorem new_below (w1 : World) (o : Obj) (u : Value) (T : TypeId) : ∀ j v, [u][j]? = some v → ((w1.alloc (.cells #[u] T)).alloc o).cell? ((⟨w1.heap.size, 0, none⟩ : Addr).add j) = some v :=
  World.news_of_block (B := w1.heap.size) (cs := #[u]) (t := T) (fr := (0, 0)) ((Below.heap_alloc _ _ _ (by simp)).trans (heap_alloc_new w1 _))
/-- The younger. -/
theorem new_top (w1 : World) (o : Obj) (u : Value) (T : TypeId) : ∀ j v, [u][j]? = some v → ((w1.alloc o).alloc (.cells #[u] T)).cell? ((⟨w1.heap.size + 1, 0, none⟩ : Addr).add j) = some v := by
  have h := heap_alloc_new (w1.alloc o) (.cells #[u] T)
  rw [World.size_alloc] at h
  exact World.news_of_block (B := w1.heap.size + 1) (cs := #[u]) (t := T) (fr := (0, 0)) h
/-- A new cell behind an append to another row. -/
theorem new_over {w1 X w2 : World} {B e n k : Nat} {v u : Value} {xs : List Value} (hv : w1.ownsRow B e 1 v n xs) (hg : X.grownBy w2 v.ownBlock)
    (h : ∀ j x, [u][j]? = some x → X.cell? ((⟨k, 0, none⟩ : Addr).add j) = some x) (hk : k < X.heap.size) (hk1 : w1.heap.size ≤ k) :
    ∀ j x, [u][j]? = some x → w2.cell? ((⟨k, 0, none⟩ : Addr).add j) = some x := fun j x hj => by
  have hadd : (⟨k, 0, none⟩ : Addr).add j = ⟨k, j, none⟩ := by unfold Addr.add; split <;> simp_all
  rw [hadd, hg.cell_far ⟨k, j, none⟩ hk (fun e => by have := (owns_lt hv k e.symm).2; omega), ← hadd]
  exact h j x hj
/-- The bases' row behind the append to the chunks' row. -/
theorem bss_kept {w1 X w2 : World} {B n n' : Nat} {v v' : Value} {xs xs' : List Value} (hb : w1.ownsRow B 21 1 v n xs) (hc : w1.ownsRow B 47 1 v' n' xs')
    (hg : X.grownBy w2 v'.ownBlock) (hX : Chg (fun _ => False) w1 X) : w2.ownsRow B 21 1 v n xs :=
  (((Chg.refl (fun k => v'.ownBlock = some k) X).grown hg (fun k h _ => h))).owns (hX.owns hb (fun _ _ h => h)) (fun k hk h => owns_apart hb hc (by decide) hk h)

def two (cv sv : Value) (k : Nat) : Prop := cv.ownBlock = some k ∨ sv.ownBlock = some k

def NewPost (w w' : World) (kb B n b o N : Nat) (cv sv : Value) (xs ys : List Value) : Prop :=
  ∃ p cv' sv', w'.heap[kb]? = some (.cells #[cv', sv', .int .i64 ((n + 1 : Nat) : Int)] 39 (0, 0)) ∧ w'.ownsRow B 47 1 cv' (N + 1) (xs ++ [.pointer (some ⟨p, 0, none⟩)]) ∧ w'.ownsRow B 21 1 sv' (N + 1) (ys ++ [.int .i32 (b : Int)]) ∧
    CkHi w' w.heap.size ⟨p, .pointer (some ⟨kb, 0, none⟩), b, [o]⟩ ∧ Chg (fun k => k = kb ∨ cv.ownBlock = some k ∨ sv.ownBlock = some k) w w' ∧
    (∀ k, cv'.ownBlock = some k → cv.ownBlock = some k ∨ w.heap.size ≤ k) ∧ (∀ k, sv'.ownBlock = some k → sv.ownBlock = some k ∨ w.heap.size ≤ k)

theorem own47_kept {X w3 : World} {B n n' : Nat} {v sv : Value} {xs ys : List Value} (hg : X.grownBy w3 sv.ownBlock) (h : X.ownsRow B 47 1 v n xs) (hs : X.ownsRow B 21 1 sv n' ys) : w3.ownsRow B 47 1 v n xs :=
  ((Chg.refl (fun k => sv.ownBlock = some k) X).grown hg (fun k h _ => h)).owns h (fun k hk h' => owns_apart h hs (by decide) hk h')

theorem new_end {w w1 w3 : World} {kb B N n b o gc cc gs sc : Nat} {cv sv lv bv : Value} {xs ys : List Value}
    (hklt : kb < w.heap.size) (hc1 : Chg (fun _ => False) w w1) (hck : CkAt w1 w.heap.size ⟨w.heap.size, .pointer (some ⟨kb, 0, none⟩), b, [o]⟩ lv bv)
    (hb1 : w1.heap[kb]? = some (.cells #[cv, sv, .int .i64 (n : Int)] 39 (0, 0)))
    (hch1 : w1.ownsRow B 47 1 cv N xs) (hbs1 : w1.ownsRow B 21 1 sv N ys) (hch : Chg (two cv sv) w1 w3)
    (h47 : w3.ownsRow B 47 1 (.slice (some ⟨gc, 0, none⟩) (N + 1) cc) (N + 1) (xs ++ [.pointer (some ⟨w.heap.size, 0, none⟩)]))
    (h21 : w3.ownsRow B 21 1 (.slice (some ⟨gs, 0, none⟩) (N + 1) sc) (N + 1) (ys ++ [.int .i32 (b : Int)]))
    (f1 : cv.ownBlock = some gc ∨ w1.heap.size ≤ gc) (f2 : sv.ownBlock = some gs ∨ w1.heap.size ≤ gs) :
    NewPost w (((w3.setCell ⟨kb, 0, none⟩ (.slice (some ⟨gc, 0, none⟩) (N + 1) cc)).setCell ⟨kb, 1, none⟩ (.slice (some ⟨gs, 0, none⟩) (N + 1) sc)).setCell ⟨kb, 2, none⟩ (.int .i64 ((n : Int) + 1))) kb B n b o N cv sv xs ys := by
  have hU : ¬ two cv sv kb := fun h => h.elim (row_apart hch1 hb1 (by decide)) (row_apart hbs1 hb1 (by decide))
  have hw3 : w3.heap[kb]? = some (.cells #[cv, sv, .int .i64 (n : Int)] 39 (0, 0)) := (hch.block kb (lt_of_blk hb1) hU).trans hb1
  have hs1 := hc1.size
  have hend : Chg (fun k => k = kb) w3 (((w3.setCell ⟨kb, 0, none⟩ (.slice (some ⟨gc, 0, none⟩) (N + 1) cc)).setCell ⟨kb, 1, none⟩ (.slice (some ⟨gs, 0, none⟩) (N + 1) sc)).setCell ⟨kb, 2, none⟩ (.int .i64 ((n : Int) + 1))) :=
    (((Chg.refl (fun k => k = kb) w3).setCell (fun _ => rfl) _).setCell (fun _ => rfl) _).setCell (fun _ => rfl) _
  refine ⟨w.heap.size, .slice (some ⟨gc, 0, none⟩) (N + 1) cc, .slice (some ⟨gs, 0, none⟩) (N + 1) sc, ?_, ?_, ?_, ?_, ?_, ?_, ?_⟩
  · rw [set_set2 (set_set1 (set_set0 hw3 _) _) _]; simp
  · exact hend.owns h47 (fun k hk e => row_apart h47 hw3 (by decide) (by rw [hk, e]))
  · exact hend.owns h21 (fun k hk e => row_apart h21 hw3 (by decide) (by rw [hk, e]))
  · have hrow : ∀ {T : TypeId} {cur : Array Value} {k : Nat}, w1.heap[k]? = some (.cells cur T (0, 0)) → T ≠ 39 → T ≠ 47 → T ≠ 21 → ¬ (two cv sv k ∨ k = kb) := fun {T cur k} hk n1 n2 n3 h => by
      rcases h with (h | h) | h
      · exact row_apart hch1 hk n2 h
      · exact row_apart hbs1 hk n3 h
      · subst h
        rw [hb1] at hk
        simp only [Option.some.injEq, Obj.cells.injEq] at hk
        exact n1 hk.2.1.symm
    have hall : Chg (fun k => two cv sv k ∨ k = kb) w1 (((w3.setCell ⟨kb, 0, none⟩ (.slice (some ⟨gc, 0, none⟩) (N + 1) cc)).setCell ⟨kb, 1, none⟩ (.slice (some ⟨gs, 0, none⟩) (N + 1) sc)).setCell ⟨kb, 2, none⟩ (.int .i64 ((n : Int) + 1))) :=
      hch.either hend (fun _ _ h => Or.inl h) (fun _ _ h => Or.inr h)
    refine ⟨Nat.le_refl _, lv, bv, hck.keep hall (hrow hck.1 (by decide) (by decide) (by decide)) (fun k hk => ?_) (fun k hk => ?_)⟩
    · obtain ⟨cur, e⟩ := hck.lrow hk
      exact hrow e (by decide) (by decide) (by decide)
    · obtain ⟨cur, e⟩ := hck.brow hk
      exact hrow e (by decide) (by decide) (by decide)
  · refine (hc1.either hch (U := fun k => two cv sv k) (fun _ _ h => h.elim) (fun _ _ h => h)).either hend (fun k _ h => ?_) (fun k _ h => Or.inl h)
    exact Or.inr h
  · intro k hk
    have : gc = k := Option.some.inj hk
    subst this
    exact f1.imp id (fun h => by omega)
  · intro k hk
    have : gs = k := Option.some.inj hk
    subst this
    exact f2.imp id (fun h => by omega)

set_option maxRecDepth 100000 in
set_option maxHeartbeats 4000000 in
theorem append_new0 (kb B : Nat) (n d b o : Nat) (xs ys : List Value) (w : World) (ca sa : Option Addr) (cc sc : Nat)
    (hblk : w.heap[kb]? = some (.cells #[.slice ca 0 cc, .slice sa 0 sc, .int .i64 (n : Int)] 39 (0, 0)))
    (hch : w.ownsRow B 47 1 (.slice ca 0 cc) 0 xs) (hbs : w.ownsRow B 21 1 (.slice sa 0 sc) 0 ys)
    (hclr : bits .andNot .i32 (d : Int) 4095 = (b : Int)) (hsub : (d : Int) - (b : Int) = (o : Int)) (hbd : b ≤ d) (ho : o < 4096) (hd : d < 1073741824) (hn : n ≤ 1000000) (hB : B ≤ w.heap.size) :
    Calls Yba.prog 9 #[.pointer (some ⟨kb, 0, none⟩), .int .i32 (d : Int)] w fun e w' => e = .returned (.tuple #[]) ∧ NewPost w w' kb B n b o 0 (.slice ca 0 cc) (.slice sa 0 sc) xs ys := by
  obtain ⟨i47, hi47, hz47, hs47, hy47⟩ := info_parts Yba.info47
  obtain ⟨i21, hi21, hz21, hs21, hy21⟩ := info_parts Yba.info21'
  obtain ⟨hc0, hc1, hc2, hfz⟩ := set_cells hblk
  have HB := show Hid _ from hblk
  have HCH := show Hid (w.ownsRow B 47 1 (.slice ca 0 cc) 0 xs) from hch
  have HBS := show Hid (w.ownsRow B 21 1 (.slice sa 0 sc) 0 ys) from hbs
  have hklt := lt_of_blk hblk
  clear hblk hch hbs
  go_enter Yba.func9, Yba.ntmps9
  go_wp2_with fail
  refine (add_any w.heap.size ⟨w.heap.size, .pointer (some ⟨kb, 0, none⟩), b, []⟩ (.slice none 0 0) (.slice none 0 0) o _ (fresh_chunk w kb b) (by simp) (by simp) ho (by simp)).mono ?_
  rintro e w1 ⟨rfl, lv, bv, hck1, hch1⟩
  have hcg : Chg (fun _ => False) w w1 := ⟨hch1.os, hch1.tape, hch1.output, by have := hch1.size; simp at this; omega, fun k hk _ => (hch1.block k (by simp; omega) (fun h => by rcases h with h | h | h; exact absurd h (Nat.ne_of_lt hk); cases h; cases h)).trans (Below.heap_alloc _ _ _ hk)⟩
  have hsz1 : w.heap.size < w1.heap.size := by have := hch1.size; simp at this; omega
  have hb1 : w1.heap[kb]? = some (.cells #[.slice ca 0 cc, .slice sa 0 sc, .int .i64 (n : Int)] 39 (0, 0)) := (hcg.block kb hklt id).trans HB.out
  have HCH1 : Hid (w1.ownsRow B 47 1 (.slice ca 0 cc) 0 xs) := hcg.owns HCH.out (fun _ _ h => h)
  have HBS1 : Hid (w1.ownsRow B 21 1 (.slice sa 0 sc) 0 ys) := hcg.owns HBS.out (fun _ _ h => h)
  obtain ⟨kc0, kc1, kc2, kfz⟩ := set_cells hb1
  have HCK1 := show Hid (CkAt w1 w.heap.size ⟨w.heap.size, .pointer (some ⟨kb, 0, none⟩), b, [o]⟩ lv bv) from hck1
  have HCG1 := show Hid _ from hcg
  have HB1 := show Hid _ from hb1
  clear hck1 hch1 hb1 hcg hc0 hc1 hc2 hfz HCH HBS HB
  go_wp2_with fail
  have HU : Hid (¬ two (.slice ca 0 cc) (.slice sa 0 sc) kb) := fun h => h.elim (row_apart HCH1.out HB1.out (by decide)) (row_apart HBS1.out HB1.out (by decide))
  have H0 : Chg (two (.slice ca 0 cc) (.slice sa 0 sc)) w1 w1 := Chg.refl _ _
  have HF : Chg (fun _ => False) w1 w1 := Chg.refl _ _
  have HS : Hid (∀ X, Chg (two (.slice ca 0 cc) (.slice sa 0 sc)) w1 X → X.cell? ⟨kb, 0, none⟩ = some (.slice ca 0 cc) ∧ X.cell? ⟨kb, 1, none⟩ = some (.slice sa 0 sc)) := fun X hX =>
    ⟨(hX.cell (p := ⟨kb, 0, none⟩) (lt_of_blk HB1.out) HU.out).trans kc0, (hX.cell (p := ⟨kb, 1, none⟩) (lt_of_blk HB1.out) HU.out).trans kc1⟩
  refine wp_region_J (late := fun j => !(j == 7 || j == 14 || j == 8 || j == 15 || j == 5 || j == 12)) (S := fun w' => w'.cell? ⟨kb, 0, none⟩ = some (.slice ca 0 cc) ∧ w'.cell? ⟨kb, 1, none⟩ = some (.slice sa 0 sc)) (by kernel_rfl) ?_
  refine takeP 0 (some 44) (.move (.tmp 0)) (.pointer (some ⟨kb, 0, none⟩)) (by kernel_rfl) (by kernel_rfl) (by kernel_rfl) (by kernel_rfl) (by kernel_rfl) (fun _ _ _ h => h) ?_ ?_
  · intro o ho x
    unfold execOp
    rw [ho]
    go_simp
  simp only [Act.put, List.setIfInBounds_toArray, List.set_cons_zero, List.set_cons_succ]
  refine takeP 1 (some 45) (.move (.tmp 0)) (.pointer (some ⟨kb, 0, none⟩)) (by kernel_rfl) (by kernel_rfl) (by kernel_rfl) (by kernel_rfl) (by kernel_rfl) (fun _ _ _ h => h) ?_ ?_
  · intro o ho x
    unfold execOp
    rw [ho]
    go_simp
  simp only [Act.put, List.setIfInBounds_toArray, List.set_cons_zero, List.set_cons_succ]
  refine takeP 2 (some 46) (.move (.tmp 0)) (.pointer (some ⟨kb, 0, none⟩)) (by kernel_rfl) (by kernel_rfl) (by kernel_rfl) (by kernel_rfl) (by kernel_rfl) (fun _ _ _ h => h) ?_ ?_
  · intro o ho x
    unfold execOp
    rw [ho]
    go_simp
  simp only [Act.put, List.setIfInBounds_toArray, List.set_cons_zero, List.set_cons_succ]
  refine takeP 3 (some 47) (.nilCheck (.tmp 46)) (.pointer (some ⟨kb, 0, none⟩)) (by kernel_rfl) (by kernel_rfl) (by kernel_rfl) (by kernel_rfl) (by kernel_rfl) (fun _ _ _ h => h) ?_ ?_
  · intro o ho x
    unfold execOp
    rw [ho]
    go_simp
  simp only [Act.put, List.setIfInBounds_toArray, List.set_cons_zero, List.set_cons_succ]
  refine takeP 4 (some 48) (.fieldAddr 39 (.tmp 47) 0) (.pointer (some ⟨kb, 0, none⟩)) (by kernel_rfl) (by kernel_rfl) (by kernel_rfl) (by kernel_rfl) (by kernel_rfl) (fun _ _ _ h => h) ?_ ?_
  · intro o ho x
    unfold execOp
    rw [ho]
    go_simp
  simp only [Act.put, List.setIfInBounds_toArray, List.set_cons_zero, List.set_cons_succ]
  refine takeP 6 (some 50) (.move (.tmp 6)) (.pointer (some ⟨w.heap.size, 0, none⟩)) (by kernel_rfl) (by kernel_rfl) (by kernel_rfl) (by kernel_rfl) (by kernel_rfl) (fun _ _ _ h => h) ?_ ?_
  · intro o ho x
    unfold execOp
    rw [ho]
    go_simp
  simp only [Act.put, List.setIfInBounds_toArray, List.set_cons_zero, List.set_cons_succ]
  refine takeP 9 (some 53) (.move (.tmp 0)) (.pointer (some ⟨kb, 0, none⟩)) (by kernel_rfl) (by kernel_rfl) (by kernel_rfl) (by kernel_rfl) (by kernel_rfl) (fun _ _ _ h => h) ?_ ?_
  · intro o ho x
    unfold execOp
    rw [ho]
    go_simp
  simp only [Act.put, List.setIfInBounds_toArray, List.set_cons_zero, List.set_cons_succ]
  refine takeP 10 (some 54) (.nilCheck (.tmp 53)) (.pointer (some ⟨kb, 0, none⟩)) (by kernel_rfl) (by kernel_rfl) (by kernel_rfl) (by kernel_rfl) (by kernel_rfl) (fun _ _ _ h => h) ?_ ?_
  · intro o ho x
    unfold execOp
    rw [ho]
    go_simp
  simp only [Act.put, List.setIfInBounds_toArray, List.set_cons_zero, List.set_cons_succ]
  refine takeP 11 (some 55) (.fieldAddr 39 (.tmp 54) 1) (.pointer (some ⟨kb, 1, none⟩)) (by kernel_rfl) (by kernel_rfl) (by kernel_rfl) (by kernel_rfl) (by kernel_rfl) (fun _ _ _ h => h) ?_ ?_
  · intro o ho x
    unfold execOp
    rw [ho]
    go_simp
  simp only [Act.put, List.setIfInBounds_toArray, List.set_cons_zero, List.set_cons_succ]
  refine takeP 13 (some 57) (.move (.tmp 4)) (.int .i32 (b : Int)) (by kernel_rfl) (by kernel_rfl) (by kernel_rfl) (by kernel_rfl) (by kernel_rfl) (fun _ _ _ h => h) ?_ ?_
  · intro o ho x
    unfold execOp
    rw [ho]
    go_simp
  simp only [Act.put, List.setIfInBounds_toArray, List.set_cons_zero, List.set_cons_succ]
  refine takeJ 5 (some 49) (.load 37 (.tmp 48)) (.slice ca 0 cc) (by kernel_rfl) (by kernel_rfl) (by kernel_rfl) (by kernel_rfl) (by kernel_rfl) (fun _ _ _ h => h) (HS.out _ H0.drew) ?_ ?_
  · intro o ho x hx
    obtain ⟨hx1, hx2⟩ := hx
    unfold execOp
    rw [ho]
    go_simp
  simp only [Act.put, List.setIfInBounds_toArray, List.set_cons_zero, List.set_cons_succ]
  refine takeJ 12 (some 56) (.load 22 (.tmp 55)) (.slice sa 0 sc) (by kernel_rfl) (by kernel_rfl) (by kernel_rfl) (by kernel_rfl) (by kernel_rfl) (fun _ _ _ h => h) (HS.out _ H0.drew) ?_ ?_
  · intro o ho x hx
    obtain ⟨hx1, hx2⟩ := hx
    unfold execOp
    rw [ho]
    go_simp
  simp only [Act.put, List.setIfInBounds_toArray, List.set_cons_zero, List.set_cons_succ]
  refine wpAnyJ_ready (rs := [7, 14]) (by kernel_rfl) (by simp) ?_
  refine stepJ 7 (some 51) (.buildSlice 37 1 #[(0, .tmp 50)]) (by kernel_rfl) (fun o ho hd K hK => ?_) (stepJ 14 (some 58) (.buildSlice 22 1 #[(0, .tmp 57)]) (by kernel_rfl) (fun o ho hd K hK => ?_) AllReadyJ.nil)
  · unfold Oper.wp execOp
    rw [ho]
    go_simp
    refine hK.out _ _ (Or.inr (HS.out _ (H0.alloc (.cells #[.pointer (some ⟨w.heap.size, 0, none⟩)] 47)).drew)) ?_
    clear hK K ho hd o
    refine wpAnyJ_ready (rs := [8, 14]) (by kernel_rfl) (by simp) ?_
    refine stepJ 8 (some 52) (.call { callee := .builtin .append, args := #[.tmp 49, .tmp 51], argTypes := #[37, 37] }) (by kernel_rfl) (fun o ho hd K hK => ?_) (stepJ 14 (some 58) (.buildSlice 22 1 #[(0, .tmp 57)]) (by kernel_rfl) (fun o ho hd K hK => ?_) AllReadyJ.nil)
    · refine wp_append_lies _ (.tmp 49) (.tmp 51) 37 ho B 47 i47 (.pointer none) 1 8 Yba.underlying37 hi47 hz47 hs47 hy47 rfl (by decide) (.slice ca 0 cc) 0 xs rfl (HCH1.out.alloc _) ⟨w1.heap.size, 0, none⟩ 1 1 [.pointer (some ⟨w.heap.size, 0, none⟩)] rfl rfl (new_one _ _ rfl _ _) (one_ptr _) (by decide) (by unfold maxLen; omega) (by omega) (by simp; omega) _ rfl ?_
      intro g1 c1 w2 hown2 hgrow2 hat2 hlt2
      rw [hd]
      have H2 : Hid (Chg (two (.slice ca 0 cc) (.slice sa 0 sc)) w1 w2) := ((H0.alloc (.cells #[.pointer (some ⟨w.heap.size, 0, none⟩)] 47)).drew).grown hgrow2 (fun k h _ => Or.inl h)
      have HO2 : Hid (w2.ownsRow B 47 1 (.slice (some ⟨g1, 0, none⟩) (0 + 1) c1) (0 + 1) (xs ++ [.pointer (some ⟨w.heap.size, 0, none⟩)])) := hown2
      have HG2 := show Hid _ from hgrow2
      have HA2 := show Hid _ from hat2
      clear hown2 hgrow2 hat2
      refine hK.out _ _ (Or.inr (HS.out _ H2.out)) ?_
      clear hK K ho hd o
      simp only [Act.put, List.setIfInBounds_toArray, List.set_cons_zero, List.set_cons_succ]
      refine wpAnyJ_ready (rs := [14]) (by kernel_rfl) (by simp) ?_
      refine stepJ 14 (some 58) (.buildSlice 22 1 #[(0, .tmp 57)]) (by kernel_rfl) (fun o ho hd K hK => ?_) AllReadyJ.nil
      unfold Oper.wp execOp
      rw [ho]
      go_simp
      refine hK.out _ _ (Or.inr (HS.out _ (H2.out.alloc (.cells #[.int .i32 (b : Int)] 21)))) ?_
      clear hK K ho hd o
      refine wpAnyJ_ready (rs := [15]) (by kernel_rfl) (by simp) ?_
      refine stepJ 15 (some 59) (.call { callee := .builtin .append, args := #[.tmp 56, .tmp 58], argTypes := #[22, 22] }) (by kernel_rfl) (fun o ho hd K hK => ?_) AllReadyJ.nil
      have hs2 : w1.heap.size ≤ w2.heap.size := H2.out.size
      refine wp_append_lies _ (.tmp 56) (.tmp 58) 22 ho B 21 i21 (.int .i32 0) 1 4 Yba.underlying22 hi21 hz21 hs21 hy21 rfl (by decide) (.slice sa 0 sc) 0 ys rfl ((bss_kept HBS1.out HCH1.out HG2.out ((HF.alloc _).drew)).alloc _) ⟨w2.heap.size, 0, none⟩ 1 1 [.int .i32 (b : Int)] rfl rfl (new_one _ _ rfl _ _) (one_int _) (by decide) (by unfold maxLen; omega) (by omega) (by simp; omega) _ rfl ?_
      intro g2 c2 w3 hown3 hgrow3 hat3 hlt3
      rw [hd]
      have H3 : Hid (Chg (two (.slice ca 0 cc) (.slice sa 0 sc)) w1 w3) := (H2.out.alloc (.cells #[.int .i32 (b : Int)] 21)).grown hgrow3 (fun k h _ => Or.inr h)
      have HO3 : Hid (w3.ownsRow B 21 1 (.slice (some ⟨g2, 0, none⟩) (0 + 1) c2) (0 + 1) (ys ++ [.int .i32 (b : Int)])) := hown3
      have HG3 := show Hid _ from hgrow3
      have HA3 := show Hid _ from hat3
      clear hown3 hgrow3 hat3
      refine hK.out _ _ (Or.inr (HS.out _ H3.out)) ?_
      clear hK K ho hd o
      simp only [Act.put, List.setIfInBounds_toArray, List.set_cons_zero, List.set_cons_succ]
      refine takeP 16 (some 60) (.nilCheck (.tmp 44)) (.pointer (some ⟨kb, 0, none⟩)) (by kernel_rfl) (by kernel_rfl) (by kernel_rfl) (by kernel_rfl) (by kernel_rfl) (fun _ _ _ h => h) ?_ ?_
      · intro o ho x
        unfold execOp
        rw [ho]
        go_simp
      simp only [Act.put, List.setIfInBounds_toArray, List.set_cons_zero, List.set_cons_succ]
      refine takeP 17 (some 61) (.fieldAddr 39 (.tmp 60) 0) (.pointer (some ⟨kb, 0, none⟩)) (by kernel_rfl) (by kernel_rfl) (by kernel_rfl) (by kernel_rfl) (by kernel_rfl) (fun _ _ _ h => h) ?_ ?_
      · intro o ho x
        unfold execOp
        rw [ho]
        go_simp
      simp only [Act.put, List.setIfInBounds_toArray, List.set_cons_zero, List.set_cons_succ]
      have hw3 : w3.heap[kb]? = some (.cells #[.slice ca 0 cc, .slice sa 0 sc, .int .i64 (n : Int)] 39 (0, 0)) := (H3.out.block kb (lt_of_blk HB1.out) HU.out).trans HB1.out
      obtain ⟨mc0, mc1, mc2, mfz⟩ := set_cells hw3
      have hw3l := lt_of_blk hw3
      clear hw3
      refine wpAnyJ_ready (rs := [18]) (by kernel_rfl) (by simp) ?_
      refine stepJ 18 (none) (.store 37 (.tmp 61) (.tmp 52)) (by kernel_rfl) (fun o ho hd K hK => ?_) AllReadyJ.nil
      unfold Oper.wp execOp
      rw [ho]
      go_simp
      refine hK.out _ _ (Or.inl (by kernel_rfl)) ?_
      clear hK K ho hd o
      refine takeP 19 (some 62) (.nilCheck (.tmp 45)) (.pointer (some ⟨kb, 0, none⟩)) (by kernel_rfl) (by kernel_rfl) (by kernel_rfl) (by kernel_rfl) (by kernel_rfl) (fun _ _ _ h => h) ?_ ?_
      · intro o ho x
        unfold execOp
        rw [ho]
        go_simp
      simp only [Act.put, List.setIfInBounds_toArray, List.set_cons_zero, List.set_cons_succ]
      refine takeP 20 (some 63) (.fieldAddr 39 (.tmp 62) 1) (.pointer (some ⟨kb, 1, none⟩)) (by kernel_rfl) (by kernel_rfl) (by kernel_rfl) (by kernel_rfl) (by kernel_rfl) (fun _ _ _ h => h) ?_ ?_
      · intro o ho x
        unfold execOp
        rw [ho]
        go_simp
      simp only [Act.put, List.setIfInBounds_toArray, List.set_cons_zero, List.set_cons_succ]
      refine wpAnyJ_ready (rs := [21]) (by kernel_rfl) (by simp) ?_
      refine stepJ 21 (none) (.store 22 (.tmp 63) (.tmp 59)) (by kernel_rfl) (fun o ho hd K hK => ?_) AllReadyJ.nil
      unfold Oper.wp execOp
      rw [ho]
      go_simp
      refine hK.out _ _ (Or.inl (by kernel_rfl)) ?_
      clear hK K ho hd o
      refine wpAnyJ_done (by kernel_rfl) ?_ _
      go_wp2
      go_end0
      exact ⟨rfl, new_end hklt HCG1.out HCK1.out HB1.out HCH1.out HBS1.out H3.out (own47_kept HG3.out (HO2.out.alloc _) ((bss_kept HBS1.out HCH1.out HG2.out ((HF.alloc _).drew)).alloc _)) HO3.out (HA2.out.imp id (fun h => by rw [h]; first | omega | (simp; done) | (simp; omega))) (HA3.out.imp id (fun h => by rw [h]; first | omega | (simp; done) | (simp; omega)))⟩
    · unfold Oper.wp execOp
      rw [ho]
      go_simp
      refine hK.out _ _ (Or.inr (HS.out _ ((H0.alloc (.cells #[.pointer (some ⟨w.heap.size, 0, none⟩)] 47)).alloc (.cells #[.int .i32 (b : Int)] 21)).drew)) ?_
      clear hK K ho hd o
      refine wpAnyJ_ready (rs := [8]) (by kernel_rfl) (by simp) ?_
      refine stepJ 8 (some 52) (.call { callee := .builtin .append, args := #[.tmp 49, .tmp 51], argTypes := #[37, 37] }) (by kernel_rfl) (fun o ho hd K hK => ?_) AllReadyJ.nil
      refine wp_append_lies _ (.tmp 49) (.tmp 51) 37 ho B 47 i47 (.pointer none) 1 8 Yba.underlying37 hi47 hz47 hs47 hy47 rfl (by decide) (.slice ca 0 cc) 0 xs rfl ((HCH1.out.alloc _).alloc _) ⟨w1.heap.size, 0, none⟩ 1 1 [.pointer (some ⟨w.heap.size, 0, none⟩)] rfl rfl (new_below w1 (.cells #[.int .i32 (b : Int)] 21) _ _) (one_ptr _) (by decide) (by unfold maxLen; omega) (by omega) (by simp; omega) _ rfl ?_
      intro g1 c1 w2 hown2 hgrow2 hat2 hlt2
      rw [hd]
      have H2 : Hid (Chg (two (.slice ca 0 cc) (.slice sa 0 sc)) w1 w2) := (((H0.alloc (.cells #[.pointer (some ⟨w.heap.size, 0, none⟩)] 47)).alloc (.cells #[.int .i32 (b : Int)] 21)).drew).grown hgrow2 (fun k h _ => Or.inl h)
      have HO2 : Hid (w2.ownsRow B 47 1 (.slice (some ⟨g1, 0, none⟩) (0 + 1) c1) (0 + 1) (xs ++ [.pointer (some ⟨w.heap.size, 0, none⟩)])) := hown2
      have HG2 := show Hid _ from hgrow2
      have HA2 := show Hid _ from hat2
      clear hown2 hgrow2 hat2
      refine hK.out _ _ (Or.inr (HS.out _ H2.out)) ?_
      clear hK K ho hd o
      simp only [Act.put, List.setIfInBounds_toArray, List.set_cons_zero, List.set_cons_succ]
      refine wpAnyJ_ready (rs := [15]) (by kernel_rfl) (by simp) ?_
      refine stepJ 15 (some 59) (.call { callee := .builtin .append, args := #[.tmp 56, .tmp 58], argTypes := #[22, 22] }) (by kernel_rfl) (fun o ho hd K hK => ?_) AllReadyJ.nil
      have hs2 : w1.heap.size ≤ w2.heap.size := H2.out.size
      refine wp_append_lies _ (.tmp 56) (.tmp 58) 22 ho B 21 i21 (.int .i32 0) 1 4 Yba.underlying22 hi21 hz21 hs21 hy21 rfl (by decide) (.slice sa 0 sc) 0 ys rfl (bss_kept HBS1.out HCH1.out HG2.out (((HF.alloc _).alloc _).drew)) ⟨w1.heap.size + 1, 0, none⟩ 1 1 [.int .i32 (b : Int)] rfl rfl (new_over HCH1.out HG2.out (new_top w1 (.cells #[.pointer (some ⟨w.heap.size, 0, none⟩)] 47) _ 21) (by first | (simp; done) | (simp; omega)) (by omega)) (one_int _) (by decide) (by unfold maxLen; omega) (by omega) (by omega) _ rfl ?_
      intro g2 c2 w3 hown3 hgrow3 hat3 hlt3
      rw [hd]
      have H3 : Hid (Chg (two (.slice ca 0 cc) (.slice sa 0 sc)) w1 w3) := (H2.out).grown hgrow3 (fun k h _ => Or.inr h)
      have HO3 : Hid (w3.ownsRow B 21 1 (.slice (some ⟨g2, 0, none⟩) (0 + 1) c2) (0 + 1) (ys ++ [.int .i32 (b : Int)])) := hown3
      have HG3 := show Hid _ from hgrow3
      have HA3 := show Hid _ from hat3
      clear hown3 hgrow3 hat3
      refine hK.out _ _ (Or.inr (HS.out _ H3.out)) ?_
      clear hK K ho hd o
      simp only [Act.put, List.setIfInBounds_toArray, List.set_cons_zero, List.set_cons_succ]
      refine takeP 16 (some 60) (.nilCheck (.tmp 44)) (.pointer (some ⟨kb, 0, none⟩)) (by kernel_rfl) (by kernel_rfl) (by kernel_rfl) (by kernel_rfl) (by kernel_rfl) (fun _ _ _ h => h) ?_ ?_
      · intro o ho x
        unfold execOp
        rw [ho]
        go_simp
      simp only [Act.put, List.setIfInBounds_toArray, List.set_cons_zero, List.set_cons_succ]
      refine takeP 17 (some 61) (.fieldAddr 39 (.tmp 60) 0) (.pointer (some ⟨kb, 0, none⟩)) (by kernel_rfl) (by kernel_rfl) (by kernel_rfl) (by kernel_rfl) (by kernel_rfl) (fun _ _ _ h => h) ?_ ?_
      · intro o ho x
        unfold execOp
        rw [ho]
        go_simp
      simp only [Act.put, List.setIfInBounds_toArray, List.set_cons_zero, List.set_cons_succ]
      have hw3 : w3.heap[kb]? = some (.cells #[.slice ca 0 cc, .slice sa 0 sc, .int .i64 (n : Int)] 39 (0, 0)) := (H3.out.block kb (lt_of_blk HB1.out) HU.out).trans HB1.out
      obtain ⟨mc0, mc1, mc2, mfz⟩ := set_cells hw3
      have hw3l := lt_of_blk hw3
      clear hw3
      refine wpAnyJ_ready (rs := [18]) (by kernel_rfl) (by simp) ?_
      refine stepJ 18 (none) (.store 37 (.tmp 61) (.tmp 52)) (by kernel_rfl) (fun o ho hd K hK => ?_) AllReadyJ.nil
      unfold Oper.wp execOp
      rw [ho]
      go_simp
      refine hK.out _ _ (Or.inl (by kernel_rfl)) ?_
      clear hK K ho hd o
      refine takeP 19 (some 62) (.nilCheck (.tmp 45)) (.pointer (some ⟨kb, 0, none⟩)) (by kernel_rfl) (by kernel_rfl) (by kernel_rfl) (by kernel_rfl) (by kernel_rfl) (fun _ _ _ h => h) ?_ ?_
      · intro o ho x
        unfold execOp
        rw [ho]
        go_simp
      simp only [Act.put, List.setIfInBounds_toArray, List.set_cons_zero, List.set_cons_succ]
      refine takeP 20 (some 63) (.fieldAddr 39 (.tmp 62) 1) (.pointer (some ⟨kb, 1, none⟩)) (by kernel_rfl) (by kernel_rfl) (by kernel_rfl) (by kernel_rfl) (by kernel_rfl) (fun _ _ _ h => h) ?_ ?_
      · intro o ho x
        unfold execOp
        rw [ho]
        go_simp
      simp only [Act.put, List.setIfInBounds_toArray, List.set_cons_zero, List.set_cons_succ]
      refine wpAnyJ_ready (rs := [21]) (by kernel_rfl) (by simp) ?_
      refine stepJ 21 (none) (.store 22 (.tmp 63) (.tmp 59)) (by kernel_rfl) (fun o ho hd K hK => ?_) AllReadyJ.nil
      unfold Oper.wp execOp
      rw [ho]
      go_simp
      refine hK.out _ _ (Or.inl (by kernel_rfl)) ?_
      clear hK K ho hd o
      refine wpAnyJ_done (by kernel_rfl) ?_ _
      go_wp2
      go_end0
      exact ⟨rfl, new_end hklt HCG1.out HCK1.out HB1.out HCH1.out HBS1.out H3.out (own47_kept HG3.out HO2.out (bss_kept HBS1.out HCH1.out HG2.out (((HF.alloc _).alloc _).drew))) HO3.out (HA2.out.imp id (fun h => by rw [h]; first | omega | (simp; done) | (simp; omega))) (HA3.out.imp id (fun h => by rw [h]; first | omega | (simp; done) | (simp; omega)))⟩
  · unfold Oper.wp execOp
    rw [ho]
    go_simp
    refine hK.out _ _ (Or.inr (HS.out _ (H0.alloc (.cells #[.int .i32 (b : Int)] 21)).drew)) ?_
    clear hK K ho hd o
    refine wpAnyJ_ready (rs := [7]) (by kernel_rfl) (by simp) ?_
    refine stepJ 7 (some 51) (.buildSlice 37 1 #[(0, .tmp 50)]) (by kernel_rfl) (fun o ho hd K hK => ?_) AllReadyJ.nil
    unfold Oper.wp execOp
    rw [ho]
    go_simp
    refine hK.out _ _ (Or.inr (HS.out _ ((H0.alloc (.cells #[.int .i32 (b : Int)] 21)).alloc (.cells #[.pointer (some ⟨w.heap.size, 0, none⟩)] 47)).drew)) ?_
    clear hK K ho hd o
    refine wpAnyJ_ready (rs := [8]) (by kernel_rfl) (by simp) ?_
    refine stepJ 8 (some 52) (.call { callee := .builtin .append, args := #[.tmp 49, .tmp 51], argTypes := #[37, 37] }) (by kernel_rfl) (fun o ho hd K hK => ?_) AllReadyJ.nil
    refine wp_append_lies _ (.tmp 49) (.tmp 51) 37 ho B 47 i47 (.pointer none) 1 8 Yba.underlying37 hi47 hz47 hs47 hy47 rfl (by decide) (.slice ca 0 cc) 0 xs rfl ((HCH1.out.alloc _).alloc _) ⟨w1.heap.size + 1, 0, none⟩ 1 1 [.pointer (some ⟨w.heap.size, 0, none⟩)] rfl rfl (new_top w1 (.cells #[.int .i32 (b : Int)] 21) _ _) (one_ptr _) (by decide) (by unfold maxLen; omega) (by omega) (by simp; omega) _ rfl ?_
    intro g1 c1 w2 hown2 hgrow2 hat2 hlt2
    rw [hd]
    have H2 : Hid (Chg (two (.slice ca 0 cc) (.slice sa 0 sc)) w1 w2) := (((H0.alloc (.cells #[.int .i32 (b : Int)] 21)).alloc (.cells #[.pointer (some ⟨w.heap.size, 0, none⟩)] 47)).drew).grown hgrow2 (fun k h _ => Or.inl h)
    have HO2 : Hid (w2.ownsRow B 47 1 (.slice (some ⟨g1, 0, none⟩) (0 + 1) c1) (0 + 1) (xs ++ [.pointer (some ⟨w.heap.size, 0, none⟩)])) := hown2
    have HG2 := show Hid _ from hgrow2
    have HA2 := show Hid _ from hat2
    clear hown2 hgrow2 hat2
    refine hK.out _ _ (Or.inr (HS.out _ H2.out)) ?_
    clear hK K ho hd o
    simp only [Act.put, List.setIfInBounds_toArray, List.set_cons_zero, List.set_cons_succ]
    refine wpAnyJ_ready (rs := [15]) (by kernel_rfl) (by simp) ?_
    refine stepJ 15 (some 59) (.call { callee := .builtin .append, args := #[.tmp 56, .tmp 58], argTypes := #[22, 22] }) (by kernel_rfl) (fun o ho hd K hK => ?_) AllReadyJ.nil
    have hs2 : w1.heap.size ≤ w2.heap.size := H2.out.size
    refine wp_append_lies _ (.tmp 56) (.tmp 58) 22 ho B 21 i21 (.int .i32 0) 1 4 Yba.underlying22 hi21 hz21 hs21 hy21 rfl (by decide) (.slice sa 0 sc) 0 ys rfl (bss_kept HBS1.out HCH1.out HG2.out (((HF.alloc _).alloc _).drew)) ⟨w1.heap.size, 0, none⟩ 1 1 [.int .i32 (b : Int)] rfl rfl (new_over HCH1.out HG2.out (new_below w1 (.cells #[.pointer (some ⟨w.heap.size, 0, none⟩)] 47) _ 21) (by first | (simp; done) | (simp; omega)) (by omega)) (one_int _) (by decide) (by unfold maxLen; omega) (by omega) (by omega) _ rfl ?_
    intro g2 c2 w3 hown3 hgrow3 hat3 hlt3
    rw [hd]
    have H3 : Hid (Chg (two (.slice ca 0 cc) (.slice sa 0 sc)) w1 w3) := (H2.out).grown hgrow3 (fun k h _ => Or.inr h)
    have HO3 : Hid (w3.ownsRow B 21 1 (.slice (some ⟨g2, 0, none⟩) (0 + 1) c2) (0 + 1) (ys ++ [.int .i32 (b : Int)])) := hown3
    have HG3 := show Hid _ from hgrow3
    have HA3 := show Hid _ from hat3
    clear hown3 hgrow3 hat3
    refine hK.out _ _ (Or.inr (HS.out _ H3.out)) ?_
    clear hK K ho hd o
    simp only [Act.put, List.setIfInBounds_toArray, List.set_cons_zero, List.set_cons_succ]
    refine takeP 16 (some 60) (.nilCheck (.tmp 44)) (.pointer (some ⟨kb, 0, none⟩)) (by kernel_rfl) (by kernel_rfl) (by kernel_rfl) (by kernel_rfl) (by kernel_rfl) (fun _ _ _ h => h) ?_ ?_
    · intro o ho x
      unfold execOp
      rw [ho]
      go_simp
    simp only [Act.put, List.setIfInBounds_toArray, List.set_cons_zero, List.set_cons_succ]
    refine takeP 17 (some 61) (.fieldAddr 39 (.tmp 60) 0) (.pointer (some ⟨kb, 0, none⟩)) (by kernel_rfl) (by kernel_rfl) (by kernel_rfl) (by kernel_rfl) (by kernel_rfl) (fun _ _ _ h => h) ?_ ?_
    · intro o ho x
      unfold execOp
      rw [ho]
      go_simp
    simp only [Act.put, List.setIfInBounds_toArray, List.set_cons_zero, List.set_cons_succ]
    have hw3 : w3.heap[kb]? = some (.cells #[.slice ca 0 cc, .slice sa 0 sc, .int .i64 (n : Int)] 39 (0, 0)) := (H3.out.block kb (lt_of_blk HB1.out) HU.out).trans HB1.out
    obtain ⟨mc0, mc1, mc2, mfz⟩ := set_cells hw3
    have hw3l := lt_of_blk hw3
    clear hw3
    refine wpAnyJ_ready (rs := [18]) (by kernel_rfl) (by simp) ?_
    refine stepJ 18 (none) (.store 37 (.tmp 61) (.tmp 52)) (by kernel_rfl) (fun o ho hd K hK => ?_) AllReadyJ.nil
    unfold Oper.wp execOp
    rw [ho]
    go_simp
    refine hK.out _ _ (Or.inl (by kernel_rfl)) ?_
    clear hK K ho hd o
    refine takeP 19 (some 62) (.nilCheck (.tmp 45)) (.pointer (some ⟨kb, 0, none⟩)) (by kernel_rfl) (by kernel_rfl) (by kernel_rfl) (by kernel_rfl) (by kernel_rfl) (fun _ _ _ h => h) ?_ ?_
    · intro o ho x
      unfold execOp
      rw [ho]
      go_simp
    simp only [Act.put, List.setIfInBounds_toArray, List.set_cons_zero, List.set_cons_succ]
    refine takeP 20 (some 63) (.fieldAddr 39 (.tmp 62) 1) (.pointer (some ⟨kb, 1, none⟩)) (by kernel_rfl) (by kernel_rfl) (by kernel_rfl) (by kernel_rfl) (by kernel_rfl) (fun _ _ _ h => h) ?_ ?_
    · intro o ho x
      unfold execOp
      rw [ho]
      go_simp
    simp only [Act.put, List.setIfInBounds_toArray, List.set_cons_zero, List.set_cons_succ]
    refine wpAnyJ_ready (rs := [21]) (by kernel_rfl) (by simp) ?_
    refine stepJ 21 (none) (.store 22 (.tmp 63) (.tmp 59)) (by kernel_rfl) (fun o ho hd K hK => ?_) AllReadyJ.nil
    unfold Oper.wp execOp
    rw [ho]
    go_simp
    refine hK.out _ _ (Or.inl (by kernel_rfl)) ?_
    clear hK K ho hd o
    refine wpAnyJ_done (by kernel_rfl) ?_ _
    go_wp2
    go_end0
    exact ⟨rfl, new_end hklt HCG1.out HCK1.out HB1.out HCH1.out HBS1.out H3.out (own47_kept HG3.out HO2.out (bss_kept HBS1.out HCH1.out HG2.out (((HF.alloc _).alloc _).drew))) HO3.out (HA2.out.imp id (fun h => by rw [h]; first | omega | (simp; done) | (simp; omega))) (HA3.out.imp id (fun h => by rw [h]; first | omega | (simp; done) | (simp; omega)))⟩

end Go.Proofs.Ybulkbtwy
