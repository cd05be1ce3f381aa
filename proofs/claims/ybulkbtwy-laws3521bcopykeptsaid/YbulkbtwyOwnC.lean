import Derived.Test.YbulkbtwyStep
import Derived.Laws.AppendOwnNone
set_option linter.unusedVariables false
namespace Go.Proofs.Ybulkbtwy
open Go.RowKit

/-- append(nil, xs...): a row of its own with the same cells. -/
theorem wp_append_clone {P : Program} {w : World} {o : Oper} {a : Act} {K : Act → World → Prop} {Q : Exit → Act → World → Prop} (x : Operand) (t : TypeId)
    (ho : o.op = .call { callee := .builtin .append, args := #[.const (.slice none 0 0), x], argTypes := #[t, t] })
    (e : TypeId) (i : TypeInfo) (z : Value) (bytes : Nat) (ht : P.underlying t = some (.slice e)) (hi : P.info? e = some i) (hz : i.zero = some z)
    (hsize : i.size = 1) (hby : i.bytes = bytes) (hzs : z.cells.size = 1) (B : Nat) (sv : Value) (n : Nat) (xs : List Value) (hx : a.eval x = sv) (hown : w.ownsRow B e 1 sv n xs) (h1 : ∀ u ∈ xs, u.oneCell' = true)
    (h63 : n ≤ maxLen) (hbytes : n * bytes ≤ 140737488355328)
    (h : ∀ c' a' w', w'.ownsRow w.heap.size e 1 (.slice a' n c') n xs → w.grownBy w' none → (sv = .slice none 0 0 → a' = none ∧ c' = 0) → K (a.put o.dst (.slice a' n c')) w') : o.wp P a w K Q := by
  rcases owns_form hown with ⟨rfl, rfl, rfl⟩ | ⟨g, cap, rfl, hg1, hg2, hg3, hg4⟩
  · have hr := run_append_owned_none (P := P) w w.heap.size t o.type e i 1 ht hi (.slice none 0 0) 0 [] (World.ownsRow_nil _ _ _ _)
    unfold Oper.wp execOp
    simp only [ho, resolve, invoke, builtin, Sem.run_bind, Sem.run_pure, Result.andThen_ok, List.map_toArray, List.map_cons, List.map_nil, hx, show a.eval (.const (.slice none 0 0)) = .slice none 0 0 from rfl, hr]
    exact h 0 none w (World.ownsRow_nil _ _ _ _) (World.grownBy.refl _ _) (fun _ => ⟨rfl, rfl⟩)
  · have hlen : xs.length = n * 1 := hown.1
    obtain ⟨v', w', hr, h2, h3, h4⟩ := run_append_own (P := P) w w.heap.size t o.type e i z 1 bytes ht hi hz hsize hby hzs (by decide) (.slice none 0 0) 0 [] (World.ownsRow_nil _ _ _ _) ⟨g, 0, none⟩ n cap xs hlen (hown.cells (g := g) rfl) h1 (by omega) (by rw [Nat.zero_add]; exact hbytes) (Nat.le_refl _)
    unfold Oper.wp execOp
    simp only [ho, resolve, invoke, builtin, Sem.run_bind, Sem.run_pure, Result.andThen_ok, List.map_toArray, List.map_cons, List.map_nil, hx, show a.eval (.const (.slice none 0 0)) = .slice none 0 0 from rfl, hr]
    rw [Nat.zero_add, List.nil_append] at h2
    obtain ⟨a', c', rfl⟩ : ∃ a' c', v' = .slice a' n c' := by
      rcases owns_form h2 with ⟨e1, e2, _⟩ | ⟨g', c', e1, _⟩
      · exact ⟨none, 0, by rw [e1, e2]⟩
      · exact ⟨_, _, e1⟩
    exact h c' a' w' h2 h3 (fun hh => by cases hh)

theorem one_u16s (offs : List Nat) : ∀ u ∈ u16s offs, u.oneCell' = true := by
  intro u hu
  simp only [u16s, List.mem_map] at hu
  obtain ⟨o, _, rfl⟩ := hu
  rfl
theorem one_u64s (ws : List Int) : ∀ u ∈ u64s ws, u.oneCell' = true := by
  intro u hu
  simp only [u64s, List.mem_map] at hu
  obtain ⟨o, _, rfl⟩ := hu
  rfl

/-- The chunk's two rows, whatever they are. -/
structure Rows2 (w : World) (offs : List Nat) (la ba : Option Addr) (ln lc bn bc : Nat) (lx bx : List Value) : Prop where
  l : w.ownsRow 0 34 1 (.slice la ln lc) ln lx
  b : w.ownsRow 0 52 1 (.slice ba bn bc) bn bx
  lo : ∀ u ∈ lx, u.oneCell' = true
  bo : ∀ u ∈ bx, u.oneCell' = true
  ll : ln ≤ 256
  bl : bn ≤ 64
  is : (offs.length ≤ 256 ∧ la = none ∧ False) ∨ (offs.length ≤ 256 ∧ ba = none ∧ bn = 0 ∧ bc = 0 ∧ ln = offs.length ∧ lx = u16s offs) ∨ (256 < offs.length ∧ la = none ∧ ln = 0 ∧ lc = 0 ∧ bn = 64 ∧ bx = u64s (words offs))

theorem CkAt.rows2 {w : World} {c : Ck} {lv bv : Value} (h : CkAt w 0 c lv bv) : ∃ la ba ln lc bn bc lx bx, lv = .slice la ln lc ∧ bv = .slice ba bn bc ∧ Rows2 w c.offs la ba ln lc bn bc lx bx := by
  rcases h.2 with ⟨h1, rfl, h3⟩ | ⟨h1, rfl, h3⟩
  · obtain ⟨la, lc, rfl⟩ : ∃ a k, lv = .slice a c.offs.length k := by
      rcases owns_form h3 with ⟨e1, e2, _⟩ | ⟨g, k, e1, _⟩
      · exact ⟨none, 0, by rw [e1, e2]⟩
      · exact ⟨_, _, e1⟩
    exact ⟨la, none, _, lc, 0, 0, _, [], rfl, rfl, h3, World.ownsRow_nil _ _ _ _, one_u16s _, by simp, h1, by omega, Or.inr (Or.inl ⟨h1, rfl, rfl, rfl, rfl, rfl⟩)⟩
  · obtain ⟨ba, bc, rfl⟩ : ∃ a k, bv = .slice a 64 k := by
      rcases owns_form h3 with ⟨e1, e2, _⟩ | ⟨g, k, e1, _⟩
      · exact absurd e2 (by decide)
      · exact ⟨_, _, e1⟩
    exact ⟨none, ba, 0, 0, 64, bc, [], _, rfl, rfl, World.ownsRow_nil _ _ _ _, h3, by simp, one_u64s _, by omega, by omega, Or.inr (Or.inr ⟨h1, rfl, rfl, rfl, rfl, rfl⟩)⟩

theorem Chg.cells {w w' : World} {p : Nat} {cur : Array Value} {T : TypeId} (h : Chg (fun _ => False) w w') (hb : w.heap[p]? = some (.cells cur T (0, 0))) : w'.heap[p]? = some (.cells cur T (0, 0)) := (h.block p (lt_of_blk hb) id).trans hb

theorem own_end {w w1 w2 : World} {kb gc cc k N B base : Nat} {offs : List Nat} {la ba la' ba' : Option Addr} {ln lc bn bc lc' bc' : Nat} {lx bx xs : List Value}
    (H1 : Chg (fun _ => False) w w1) (H12 : Chg (fun _ => False) w1 w2) (hl : w1.ownsRow w.heap.size 34 1 (.slice la' ln lc') ln lx) (hb : w2.ownsRow w1.heap.size 52 1 (.slice ba' bn bc') bn bx)
    (R : Rows2 w offs la ba ln lc bn bc lx bx) (hcv : w.ownsRow B 47 1 (.slice (some ⟨gc, 0, none⟩) N cc) N xs)
    (nl : Value.slice la ln lc = .slice none 0 0 → la' = none ∧ lc' = 0) (nb : Value.slice ba bn bc = .slice none 0 0 → ba' = none ∧ bc' = 0) :
    ∃ p lv bv, Ending.returned (.pointer (some ⟨w2.heap.size, 0, none⟩)) = .returned (.pointer (some ⟨p, 0, none⟩)) ∧
      CkAt ((w2.setCell ⟨gc, k, none⟩ (.pointer (some ⟨w2.heap.size, 0, none⟩))).alloc (.cells #[.pointer (some ⟨kb, 0, none⟩), .int .i32 (base : Int), .int .i32 (offs.length : Int), .slice la' ln lc', .slice ba' bn bc'] 51)) w.heap.size ⟨p, .pointer (some ⟨kb, 0, none⟩), base, offs⟩ lv bv ∧ w.heap.size ≤ p ∧
      Chg (fun j => j = gc) w ((w2.setCell ⟨gc, k, none⟩ (.pointer (some ⟨w2.heap.size, 0, none⟩))).alloc (.cells #[.pointer (some ⟨kb, 0, none⟩), .int .i32 (base : Int), .int .i32 (offs.length : Int), .slice la' ln lc', .slice ba' bn bc'] 51)) ∧
      ((w2.setCell ⟨gc, k, none⟩ (.pointer (some ⟨w2.heap.size, 0, none⟩))).alloc (.cells #[.pointer (some ⟨kb, 0, none⟩), .int .i32 (base : Int), .int .i32 (offs.length : Int), .slice la' ln lc', .slice ba' bn bc'] 51)).ownsRow B 47 1 (.slice (some ⟨gc, 0, none⟩) N cc) N (xs.set k (.pointer (some ⟨p, 0, none⟩))) := by
  have hs1 := H1.size
  have hs2 := H12.size
  have hgc := (owns_lt hcv gc rfl).2
  have H2 : Chg (fun _ => False) w w2 := H1.trans H12
  have hcv2 := H2.owns hcv (fun _ _ h => h)
  have hl2 := H12.owns hl (fun _ _ h => h)
  have sz : (w2.setCell ⟨gc, k, none⟩ (.pointer (some ⟨w2.heap.size, 0, none⟩))).heap.size = w2.heap.size := by simp [World.setCell]
  have hnew := heap_alloc_new (w2.setCell ⟨gc, k, none⟩ (.pointer (some ⟨w2.heap.size, 0, none⟩))) (.cells #[.pointer (some ⟨kb, 0, none⟩), .int .i32 (base : Int), .int .i32 (offs.length : Int), .slice la' ln lc', .slice ba' bn bc'] 51)
  rw [sz] at hnew
  refine ⟨w2.heap.size, .slice la' ln lc', .slice ba' bn bc', rfl, ⟨hnew, ?_⟩, by omega, ?_, ((hcv2.stored k _).1).alloc _⟩
  · have hl3 : ((w2.setCell ⟨gc, k, none⟩ (.pointer (some ⟨w2.heap.size, 0, none⟩))).alloc (.cells #[.pointer (some ⟨kb, 0, none⟩), .int .i32 (base : Int), .int .i32 (offs.length : Int), .slice la' ln lc', .slice ba' bn bc'] 51)).ownsRow w.heap.size 34 1 (.slice la' ln lc') ln lx :=
      (owns_setCell hl2 (a := ⟨gc, k, none⟩) (fun e => owns_apart hl2 hcv2 (by decide) e rfl) _).alloc _
    have hb3 : ((w2.setCell ⟨gc, k, none⟩ (.pointer (some ⟨w2.heap.size, 0, none⟩))).alloc (.cells #[.pointer (some ⟨kb, 0, none⟩), .int .i32 (base : Int), .int .i32 (offs.length : Int), .slice la' ln lc', .slice ba' bn bc'] 51)).ownsRow w.heap.size 52 1 (.slice ba' bn bc') bn bx :=
      owns_base ((owns_setCell hb (a := ⟨gc, k, none⟩) (fun e => owns_apart hb hcv2 (by decide) e rfl) _).alloc _) (fun j hj => by have := (owns_lt hb j hj).1; omega)
    rcases R.is with ⟨_, _, h⟩ | ⟨h1, h2, h3, h4, h5, h6⟩ | ⟨h1, h2, h3, h4, h5, h6⟩
    · exact h.elim
    · obtain ⟨e1, e2⟩ := nb (by rw [h2, h3, h4])
      refine Or.inl ⟨h1, by rw [e1, e2, h3], ?_⟩
      rw [h5, h6] at hl3
      rw [h5]
      exact hl3
    · obtain ⟨e1, e2⟩ := nl (by rw [h2, h3, h4])
      refine Or.inr ⟨h1, by rw [e1, e2, h3], ?_⟩
      rw [h5, h6] at hb3
      rw [h5]
      exact hb3
  · exact ((show Chg (fun j => j = gc) w w2 from H2.mono (fun _ _ h => h.elim)).setCell (p := ⟨gc, k, none⟩) (fun _ => rfl) _).alloc _

set_option maxRecDepth 100000 in
set_option maxHeartbeats 2000000 in
/-- own, of a chunk that is nobody's: a copy of it, which is the set's. -/
theorem own_copy (kb gc cc k N : Nat) (c : Ck) (la ba : Option Addr) (ln lc bn bc : Nat) (lx bx : List Value) (B : Nat) (xs : List Value) (w : World) (hcv : w.ownsRow B 47 1 (.slice (some ⟨gc, 0, none⟩) N cc) N xs)
    (hc0 : w.cell? ⟨kb, 0, none⟩ = some (.slice (some ⟨gc, 0, none⟩) N cc)) (hk : k < N) (hN : N ≤ 1000000) (hkb : kb < w.heap.size)
    (hp : w.cell? ⟨gc, k, none⟩ = some (.pointer (some ⟨c.p, 0, none⟩)))
    (hblk : w.heap[c.p]? = some (.cells #[.pointer none, .int .i32 (c.base : Int), .int .i32 (c.offs.length : Int), .slice la ln lc, .slice ba bn bc] 51 (0, 0))) (R : Rows2 w c.offs la ba ln lc bn bc lx bx) :
    Calls Yba.prog 12 #[.pointer (some ⟨kb, 0, none⟩), .int .i64 (k : Int)] w fun e w' => ∃ p lv bv, e = .returned (.pointer (some ⟨p, 0, none⟩)) ∧
      CkAt w' w.heap.size ⟨p, .pointer (some ⟨kb, 0, none⟩), c.base, c.offs⟩ lv bv ∧ w.heap.size ≤ p ∧ Chg (fun j => j = gc) w w' ∧ w'.ownsRow B 47 1 (.slice (some ⟨gc, 0, none⟩) N cc) N (xs.set k (.pointer (some ⟨p, 0, none⟩))) := by
  obtain ⟨i34, hi34, hz34, hs34, hy34⟩ := info_parts Yba.info34
  obtain ⟨i52, hi52, hz52, hs52, hy52⟩ := info_parts Yba.info52
  have hpn := fun (w : World) (a : Addr) => run_neq_nil_ptr (P := Yba.prog) w a Yba.underlying42
  obtain ⟨n0, n1, n2, n3, n4, nfz⟩ := ck_cells hblk
  have hgc : gc < w.heap.size := (owns_lt hcv gc rfl).2
  have hgf : w.frozen? ⟨gc, k, none⟩ = false := hcv.frozenAt k
  have HCV := show Hid (w.ownsRow B 47 1 (.slice (some ⟨gc, 0, none⟩) N cc) N xs) from hcv
  have HB := show Hid _ from hblk
  have HR := show Hid (Rows2 w c.offs la ba ln lc bn bc lx bx) from R
  have hplt := lt_of_blk hblk
  clear hblk R hcv
  go_enter Yba.func12, Yba.ntmps12
  go_wp2
  have HS : Hid (∀ X, Chg (fun _ => False) w X → X.cell? ⟨c.p, 1, none⟩ = some (.int .i32 (c.base : Int)) ∧ X.cell? ⟨c.p, 2, none⟩ = some (.int .i32 (c.offs.length : Int)) ∧ X.cell? ⟨c.p, 3, none⟩ = some (.slice la ln lc) ∧ X.cell? ⟨c.p, 4, none⟩ = some (.slice ba bn bc)) := fun X hX =>
    ⟨(hX.cell (p := ⟨c.p, 1, none⟩) hplt id).trans n1, (hX.cell (p := ⟨c.p, 2, none⟩) hplt id).trans n2, (hX.cell (p := ⟨c.p, 3, none⟩) hplt id).trans n3, (hX.cell (p := ⟨c.p, 4, none⟩) hplt id).trans n4⟩
  have H0 : Chg (fun _ => False) w w := Chg.refl _ _
  refine wp_region_J (late := fun j => j == 0 || j == 1 || j == 2 || j == 3 || j == 5 || j == 6 || j == 7 || j == 9 || j == 10 || j == 11 || j == 14 || j == 15 || j == 16) (S := fun X => X.cell? ⟨c.p, 1, none⟩ = some (.int .i32 (c.base : Int)) ∧ X.cell? ⟨c.p, 2, none⟩ = some (.int .i32 (c.offs.length : Int)) ∧ X.cell? ⟨c.p, 3, none⟩ = some (.slice la ln lc) ∧ X.cell? ⟨c.p, 4, none⟩ = some (.slice ba bn bc)) (by kernel_rfl) ?_
  refine takeP 0 (some 19) (.move (.tmp 0)) (.pointer (some ⟨kb, 0, none⟩)) (by kernel_rfl) (by kernel_rfl) (by kernel_rfl) (by kernel_rfl) (by kernel_rfl) (fun _ _ _ h => h) ?_ ?_
  · intro o ho x
    unfold execOp
    rw [ho]
    go_simp
  simp only [Act.put, List.setIfInBounds_toArray, List.set_cons_zero, List.set_cons_succ]
  refine takeP 1 (some 20) (.move (.tmp 5)) (.pointer (some ⟨c.p, 0, none⟩)) (by kernel_rfl) (by kernel_rfl) (by kernel_rfl) (by kernel_rfl) (by kernel_rfl) (fun _ _ _ h => h) ?_ ?_
  · intro o ho x
    unfold execOp
    rw [ho]
    go_simp
  simp only [Act.put, List.setIfInBounds_toArray, List.set_cons_zero, List.set_cons_succ]
  refine takeP 2 (some 21) (.nilCheck (.tmp 20)) (.pointer (some ⟨c.p, 0, none⟩)) (by kernel_rfl) (by kernel_rfl) (by kernel_rfl) (by kernel_rfl) (by kernel_rfl) (fun _ _ _ h => h) ?_ ?_
  · intro o ho x
    unfold execOp
    rw [ho]
    go_simp
  simp only [Act.put, List.setIfInBounds_toArray, List.set_cons_zero, List.set_cons_succ]
  refine takeP 3 (some 22) (.fieldAddr 51 (.tmp 21) 1) (.pointer (some ⟨c.p, 1, none⟩)) (by kernel_rfl) (by kernel_rfl) (by kernel_rfl) (by kernel_rfl) (by kernel_rfl) (fun _ _ _ h => h) ?_ ?_
  · intro o ho x
    unfold execOp
    rw [ho]
    go_simp
  simp only [Act.put, List.setIfInBounds_toArray, List.set_cons_zero, List.set_cons_succ]
  refine takeP 5 (some 24) (.move (.tmp 5)) (.pointer (some ⟨c.p, 0, none⟩)) (by kernel_rfl) (by kernel_rfl) (by kernel_rfl) (by kernel_rfl) (by kernel_rfl) (fun _ _ _ h => h) ?_ ?_
  · intro o ho x
    unfold execOp
    rw [ho]
    go_simp
  simp only [Act.put, List.setIfInBounds_toArray, List.set_cons_zero, List.set_cons_succ]
  refine takeP 6 (some 25) (.nilCheck (.tmp 24)) (.pointer (some ⟨c.p, 0, none⟩)) (by kernel_rfl) (by kernel_rfl) (by kernel_rfl) (by kernel_rfl) (by kernel_rfl) (fun _ _ _ h => h) ?_ ?_
  · intro o ho x
    unfold execOp
    rw [ho]
    go_simp
  simp only [Act.put, List.setIfInBounds_toArray, List.set_cons_zero, List.set_cons_succ]
  refine takeP 7 (some 26) (.fieldAddr 51 (.tmp 25) 2) (.pointer (some ⟨c.p, 2, none⟩)) (by kernel_rfl) (by kernel_rfl) (by kernel_rfl) (by kernel_rfl) (by kernel_rfl) (fun _ _ _ h => h) ?_ ?_
  · intro o ho x
    unfold execOp
    rw [ho]
    go_simp
  simp only [Act.put, List.setIfInBounds_toArray, List.set_cons_zero, List.set_cons_succ]
  refine takeP 9 (some 28) (.move (.tmp 5)) (.pointer (some ⟨c.p, 0, none⟩)) (by kernel_rfl) (by kernel_rfl) (by kernel_rfl) (by kernel_rfl) (by kernel_rfl) (fun _ _ _ h => h) ?_ ?_
  · intro o ho x
    unfold execOp
    rw [ho]
    go_simp
  simp only [Act.put, List.setIfInBounds_toArray, List.set_cons_zero, List.set_cons_succ]
  refine takeP 10 (some 29) (.nilCheck (.tmp 28)) (.pointer (some ⟨c.p, 0, none⟩)) (by kernel_rfl) (by kernel_rfl) (by kernel_rfl) (by kernel_rfl) (by kernel_rfl) (fun _ _ _ h => h) ?_ ?_
  · intro o ho x
    unfold execOp
    rw [ho]
    go_simp
  simp only [Act.put, List.setIfInBounds_toArray, List.set_cons_zero, List.set_cons_succ]
  refine takeP 11 (some 30) (.fieldAddr 51 (.tmp 29) 3) (.pointer (some ⟨c.p, 3, none⟩)) (by kernel_rfl) (by kernel_rfl) (by kernel_rfl) (by kernel_rfl) (by kernel_rfl) (fun _ _ _ h => h) ?_ ?_
  · intro o ho x
    unfold execOp
    rw [ho]
    go_simp
  simp only [Act.put, List.setIfInBounds_toArray, List.set_cons_zero, List.set_cons_succ]
  refine takeP 14 (some 33) (.move (.tmp 5)) (.pointer (some ⟨c.p, 0, none⟩)) (by kernel_rfl) (by kernel_rfl) (by kernel_rfl) (by kernel_rfl) (by kernel_rfl) (fun _ _ _ h => h) ?_ ?_
  · intro o ho x
    unfold execOp
    rw [ho]
    go_simp
  simp only [Act.put, List.setIfInBounds_toArray, List.set_cons_zero, List.set_cons_succ]
  refine takeP 15 (some 34) (.nilCheck (.tmp 33)) (.pointer (some ⟨c.p, 0, none⟩)) (by kernel_rfl) (by kernel_rfl) (by kernel_rfl) (by kernel_rfl) (by kernel_rfl) (fun _ _ _ h => h) ?_ ?_
  · intro o ho x
    unfold execOp
    rw [ho]
    go_simp
  simp only [Act.put, List.setIfInBounds_toArray, List.set_cons_zero, List.set_cons_succ]
  refine takeP 16 (some 35) (.fieldAddr 51 (.tmp 34) 4) (.pointer (some ⟨c.p, 4, none⟩)) (by kernel_rfl) (by kernel_rfl) (by kernel_rfl) (by kernel_rfl) (by kernel_rfl) (fun _ _ _ h => h) ?_ ?_
  · intro o ho x
    unfold execOp
    rw [ho]
    go_simp
  simp only [Act.put, List.setIfInBounds_toArray, List.set_cons_zero, List.set_cons_succ]
  refine takeJ 4 (some 23) (.load 21 (.tmp 22)) (.int .i32 (c.base : Int)) (by kernel_rfl) (by kernel_rfl) (by kernel_rfl) (by kernel_rfl) (by kernel_rfl) (fun _ _ _ h => h) (HS.out _ H0.drew) ?_ ?_
  · intro o ho x hx
    obtain ⟨hx1, hx2, hx3, hx4⟩ := hx
    unfold execOp
    rw [ho]
    go_simp
  simp only [Act.put, List.setIfInBounds_toArray, List.set_cons_zero, List.set_cons_succ]
  refine takeJ 8 (some 27) (.load 21 (.tmp 26)) (.int .i32 (c.offs.length : Int)) (by kernel_rfl) (by kernel_rfl) (by kernel_rfl) (by kernel_rfl) (by kernel_rfl) (fun _ _ _ h => h) (HS.out _ H0.drew) ?_ ?_
  · intro o ho x hx
    obtain ⟨hx1, hx2, hx3, hx4⟩ := hx
    unfold execOp
    rw [ho]
    go_simp
  simp only [Act.put, List.setIfInBounds_toArray, List.set_cons_zero, List.set_cons_succ]
  refine takeJ 12 (some 31) (.load 35 (.tmp 30)) (.slice la ln lc) (by kernel_rfl) (by kernel_rfl) (by kernel_rfl) (by kernel_rfl) (by kernel_rfl) (fun _ _ _ h => h) (HS.out _ H0.drew) ?_ ?_
  · intro o ho x hx
    obtain ⟨hx1, hx2, hx3, hx4⟩ := hx
    unfold execOp
    rw [ho]
    go_simp
  simp only [Act.put, List.setIfInBounds_toArray, List.set_cons_zero, List.set_cons_succ]
  refine takeJ 17 (some 36) (.load 49 (.tmp 35)) (.slice ba bn bc) (by kernel_rfl) (by kernel_rfl) (by kernel_rfl) (by kernel_rfl) (by kernel_rfl) (fun _ _ _ h => h) (HS.out _ H0.drew) ?_ ?_
  · intro o ho x hx
    obtain ⟨hx1, hx2, hx3, hx4⟩ := hx
    unfold execOp
    rw [ho]
    go_simp
  simp only [Act.put, List.setIfInBounds_toArray, List.set_cons_zero, List.set_cons_succ]
  refine wpAnyJ_ready (rs := [13]) (by kernel_rfl) (by simp) ?_
  refine stepJ 13 (some 32) (.call { callee := .builtin .append, args := #[.const (.slice none 0 0), .tmp 31], argTypes := #[35, 35] }) (by kernel_rfl) (fun o ho hd K hK => ?_) AllReadyJ.nil
  refine wp_append_clone (.tmp 31) 35 ho 34 i34 (.int .u16 0) 2 Yba.underlying35 hi34 hz34 hs34 hy34 rfl 0 (.slice la ln lc) ln lx rfl HR.out.l HR.out.lo (by have := HR.out.ll; unfold maxLen; omega) (by have := HR.out.ll; omega) ?_
  intro lc' la' w1 hl1 hg1 hnl
  rw [hd]
  have H1 : Hid (Chg (fun _ => False) w w1) := H0.drew.grown hg1 (fun k h _ => by cases h)
  have HL1 : Hid (w1.ownsRow w.heap.size 34 1 (.slice la' ln lc') ln lx) := hl1
  have HNL := show Hid _ from hnl
  clear hl1 hg1 hnl
  refine hK.out _ _ (Or.inr (HS.out _ H1.out)) ?_
  clear hK K ho hd o
  simp only [Act.put, List.setIfInBounds_toArray, List.set_cons_zero, List.set_cons_succ]
  refine wpAnyJ_ready (rs := [18]) (by kernel_rfl) (by simp) ?_
  refine stepJ 18 (some 37) (.call { callee := .builtin .append, args := #[.const (.slice none 0 0), .tmp 36], argTypes := #[49, 49] }) (by kernel_rfl) (fun o ho hd K hK => ?_) AllReadyJ.nil
  refine wp_append_clone (.tmp 36) 49 ho 52 i52 (.int .u64 0) 8 Yba.underlying49 hi52 hz52 hs52 hy52 rfl 0 (.slice ba bn bc) bn bx rfl (H1.out.owns HR.out.b (fun _ _ h => h)) HR.out.bo (by have := HR.out.bl; unfold maxLen; omega) (by have := HR.out.bl; omega) ?_
  intro bc' ba' w2 hl2 hg2 hnb
  rw [hd]
  have H12 : Hid (Chg (fun _ => False) w1 w2) := (Chg.refl _ w1).grown hg2 (fun k h _ => by cases h)
  have H2 : Hid (Chg (fun _ => False) w w2) := H1.out.trans H12.out
  have HL2 : Hid (w2.ownsRow w1.heap.size 52 1 (.slice ba' bn bc') bn bx) := hl2
  have HNB := show Hid _ from hnb
  clear hl2 hg2 hnb
  refine hK.out _ _ (Or.inr (HS.out _ H2.out)) ?_
  clear hK K ho hd o
  simp only [Act.put, List.setIfInBounds_toArray, List.set_cons_zero, List.set_cons_succ]
  refine takeJ 19 (some 38) (.build 51 #[(0, .tmp 19), (1, .tmp 23), (2, .tmp 27), (3, .tmp 32), (4, .tmp 37)]) (.agg #[.pointer (some ⟨kb, 0, none⟩), .int .i32 (c.base : Int), .int .i32 (c.offs.length : Int), .slice la' ln lc', .slice ba' bn bc']) (by kernel_rfl) (by kernel_rfl) (by kernel_rfl) (by kernel_rfl) (by kernel_rfl) (fun _ _ _ h => h) (HS.out _ H2.out) ?_ ?_
  · intro o ho x hx
    obtain ⟨hx1, hx2, hx3, hx4⟩ := hx
    unfold execOp
    rw [ho]
    go_simp
  simp only [Act.put, List.setIfInBounds_toArray, List.set_cons_zero, List.set_cons_succ]
  refine wpAnyJ_ready (rs := [20]) (by kernel_rfl) (by simp) ?_
  refine stepJ 20 (some 39) (.box 51 (.tmp 38)) (by kernel_rfl) (fun o ho hd K hK => ?_) AllReadyJ.nil
  unfold Oper.wp execOp
  rw [ho]
  go_simp
  refine hK.out _ _ (Or.inr (HS.out _ (H2.out.alloc _))) ?_
  clear hK K ho hd o
  refine takeJ 21 (some 5) (.assign (.tmp 39)) (.pointer (some ⟨w2.heap.size, 0, none⟩)) (by kernel_rfl) (by kernel_rfl) (by kernel_rfl) (by kernel_rfl) (by kernel_rfl) (fun _ _ _ h => h) (HS.out _ (H2.out.alloc _)) ?_ ?_
  · intro o ho x hx
    obtain ⟨hx1, hx2, hx3, hx4⟩ := hx
    unfold execOp
    rw [ho]
    go_simp
  simp only [Act.put, List.setIfInBounds_toArray, List.set_cons_zero, List.set_cons_succ]
  refine wpAnyJ_done (by kernel_rfl) ?_ _
  have m0 : w2.cell? ⟨kb, 0, none⟩ = some (.slice (some ⟨gc, 0, none⟩) N cc) := (H2.out.cell (p := ⟨kb, 0, none⟩) hkb id).trans hc0
  have m1 : w2.cell? ⟨gc, k, none⟩ = some (.pointer (some ⟨c.p, 0, none⟩)) := (H2.out.cell (p := ⟨gc, k, none⟩) hgc id).trans hp
  have m2 : w2.frozen? ⟨gc, k, none⟩ = false := (H2.out.frozen (p := ⟨gc, k, none⟩) hgc id).trans hgf
  have hs2 : w.heap.size ≤ w2.heap.size := H2.out.size
  have hkb2 : kb < w2.heap.size := by omega
  have hgc2 : gc < w2.heap.size := by omega
  clear hc0 hp hgf n0 n1 n2 n3 n4 nfz
  go_wp2
  go_ret
  exact own_end H1.out H12.out HL1.out HL2.out HR.out HCV.out HNL.out HNB.out

end Go.Proofs.Ybulkbtwy
