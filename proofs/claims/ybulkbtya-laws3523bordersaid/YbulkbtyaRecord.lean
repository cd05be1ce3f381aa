import Derived.Test.YbulkbtyaMem
set_option linter.unusedVariables false
namespace Go.Proofs.Ybulkbtya
open Go.RowKit Go.MuLone

/-- An announcement's nine cells. -/
def ann (tw : Nat) (te : Int) (p c : ByteArray) (bv : Value) : List Value := [.int .u64 (tw : Int), .int .i64 te, .pointer none, .int .u64 0, .int .i64 0, .pointer none, .string p, .string c, bv]

theorem ann_one (tw : Nat) (te : Int) (p c : ByteArray) (ba : Option Addr) (bl bc : Nat) : ∀ u ∈ ann tw te p c (.slice ba bl bc), u.oneCell' = true := by
  intro u hu
  simp only [ann, List.mem_cons, List.not_mem_nil, or_false] at hu
  rcases hu with rfl | rfl | rfl | rfl | rfl | rfl | rfl | rfl | rfl <;> rfl

theorem cells_new (X : World) (H : Nat) (hH : X.heap.size = H) (l : List Value) (T : TypeId) : ∀ j u, l[j]? = some u → (X.alloc (.cells l.toArray T)).cell? ((⟨H, 0, none⟩ : Addr).add j) = some u := by
  intro j u h
  subst hH
  have e : ((⟨X.heap.size, 0, none⟩ : Addr).add j) = ⟨X.heap.size, j, none⟩ := by
    unfold Addr.add
    split
    · rename_i h0; subst h0; rfl
    · simp
  rw [e, cell_of_row _ _ _ _ _ _ (heap_alloc_new X _)]
  simpa using h

/-- A region's walk that never panics. -/
def nrm (K : Act → World → Prop) : Exit → Act → World → Prop
  | .normal, a, w => K a w
  | _, _, _ => False

theorem wp_region_N {P : Program} {ops : Array Oper} {Q : Exit → Act → World → Prop} {S : World → Prop} {late : Nat → Bool} {id : Nat} {a : Act} {w : World} (hm : P.follows .mixedOrders = true)
    (h : wpAnyJ P .any ops (nrm (Q .normal)) (Early late S) ops.size (Array.replicate ops.size false) a w.drew) : (Code.region id ops true).wp P Q a w :=
  Code.wp_mono (fun e a w h => by cases e <;> first | exact h | exact h.elim) (wp_region_J hm h)

set_option maxRecDepth 100000 in
set_option maxHeartbeats 1000000 in
theorem record_any (pb B n : Nat) (ra : Option Addr) (rc : Nat) (xs : List Value) (tw : Nat) (te : Int) (p c : ByteArray) (ba : Option Addr) (bl bc : Nat) (w : World)
    (hb : w.heap[pb]? = some (poolObj 0 (.slice ra n rc))) (hown : w.ownsRow B 35 9 (.slice ra n rc) n xs) (hn : n ≤ 1024) (hB : B ≤ w.heap.size) :
    Calls Yba.prog 11 #[.pointer (some ⟨pb, 0, none⟩), .agg #[.int .u64 (tw : Int), .int .i64 te, .pointer none, .int .u64 0, .int .i64 0, .pointer none, .string p, .string c, .slice ba bl bc]] w fun e w' => e = .returned (.tuple #[]) ∧ ∃ ra' rc', w'.heap[pb]? = some (poolObj 0 (.slice ra' (n + 1) rc')) ∧
      w'.ownsRow B 35 9 (.slice ra' (n + 1) rc') (n + 1) (xs ++ ann tw te p c (.slice ba bl bc)) ∧ Chg (fun k => k = pb ∨ (Value.slice ra n rc).ownBlock = some k) w w' := by
  obtain ⟨i35, hi35, hz35, hs35, hy35⟩ := info_parts Yba.info35
  have hpl := lt_of_blk hb
  have hbA : (w.alloc (.cells #[.int .u64 (tw : Int), .int .i64 te, .pointer none, .int .u64 0, .int .i64 0, .pointer none, .string p, .string c, .slice ba bl bc] 35)).heap[pb]? = some (poolObj 0 (.slice ra n rc)) := (Below.heap_alloc _ _ _ hpl).trans hb
  obtain ⟨hc5, hc7, hf⟩ := pool_cells hbA
  have hf5 := hf 5
  have hsw : (w.setCell ⟨pb, 5, none⟩ (.int .i32 1)).heap.size = w.heap.size := by simp [World.setCell]
  have hlk : ((w.setCell ⟨pb, 5, none⟩ (.int .i32 1)).alloc (.cells #[.int .u64 (tw : Int), .int .i64 te, .pointer none, .int .u64 0, .int .i64 0, .pointer none, .string p, .string c, .slice ba bl bc] 35)).heap[pb]? = some (poolObj 1 (.slice ra n rc)) := (Below.heap_alloc _ _ _ (by rw [hsw]; exact hpl)).trans (pool_lock hb 1)
  obtain ⟨kc5, kc7, kf⟩ := pool_cells hlk
  have hap : (Value.slice ra n rc).ownBlock ≠ some pb := row_apart hown hb (by decide)
  have HO1 : Hid (((w.setCell ⟨pb, 5, none⟩ (.int .i32 1)).alloc (.cells #[.int .u64 (tw : Int), .int .i64 te, .pointer none, .int .u64 0, .int .i64 0, .pointer none, .string p, .string c, .slice ba bl bc] 35)).ownsRow B 35 9 (.slice ra n rc) n xs) := (owns_setCell hown hap _).alloc _
  have HL := show Hid (((w.setCell ⟨pb, 5, none⟩ (.int .i32 1)).alloc (.cells #[.int .u64 (tw : Int), .int .i64 te, .pointer none, .int .u64 0, .int .i64 0, .pointer none, .string p, .string c, .slice ba bl bc] 35)).heap[pb]? = some (poolObj 1 (.slice ra n rc))) from hlk
  have HN : Hid (((w.setCell ⟨pb, 5, none⟩ (.int .i32 1)).alloc (.cells #[.int .u64 (tw : Int), .int .i64 te, .pointer none, .int .u64 0, .int .i64 0, .pointer none, .string p, .string c, .slice ba bl bc] 35)).heap[w.heap.size]? = some (.cells #[.int .u64 (tw : Int), .int .i64 te, .pointer none, .int .u64 0, .int .i64 0, .pointer none, .string p, .string c, .slice ba bl bc] 35 (0, 0))) := by
    have h := heap_alloc_new (w.setCell ⟨pb, 5, none⟩ (.int .i32 1)) (.cells #[.int .u64 (tw : Int), .int .i64 te, .pointer none, .int .u64 0, .int .i64 0, .pointer none, .string p, .string c, .slice ba bl bc] 35)
    rw [hsw] at h
    exact h
  have HCH : Hid (Chg (fun k => k = pb ∨ (Value.slice ra n rc).ownBlock = some k) w ((w.setCell ⟨pb, 5, none⟩ (.int .i32 1)).alloc (.cells #[.int .u64 (tw : Int), .int .i64 te, .pointer none, .int .u64 0, .int .i64 0, .pointer none, .string p, .string c, .slice ba bl bc] 35))) := ((Chg.refl _ _).setCell (fun _ => Or.inl rfl) _).alloc _
  have HAP := show Hid ((Value.slice ra n rc).ownBlock ≠ some pb) from hap
  have hsz : ((w.setCell ⟨pb, 5, none⟩ (.int .i32 1)).alloc (.cells #[.int .u64 (tw : Int), .int .i64 te, .pointer none, .int .u64 0, .int .i64 0, .pointer none, .string p, .string c, .slice ba bl bc] 35)).heap.size = w.heap.size + 1 := by simp [World.setCell]
  clear hb hlk hown hap hbA hsw
  go_enter_defers Yba.func11, Yba.ntmps11
  go_wp2_with (go_at_call 13; refine (lock_free Yba.muLib ⟨pb, 5, none⟩ _ hc5 hf5).mono ?_; rintro e w' ⟨rfl, rfl⟩)
  obtain ⟨w1, hw1⟩ : ∃ w1 : World, w1 = (w.setCell ⟨pb, 5, none⟩ (.int .i32 1)).alloc (.cells #[.int .u64 (tw : Int), .int .i64 te, .pointer none, .int .u64 0, .int .i64 0, .pointer none, .string p, .string c, .slice ba bl bc] 35) := ⟨_, rfl⟩
  simp only [← hw1] at HO1 HL HN HCH hsz kc5 kc7 kf ⊢
  clear hw1 hc5 hc7 hf hf5
  refine wp_region_N (late := fun j => j == 0 || j == 1 || j == 2 || j == 3 || j == 8 || j == 9 || j == 10) (S := fun X => X.cell? ⟨pb, 7, none⟩ = some (.slice ra n rc)) (by kernel_rfl) ?_
  refine takeP 0 (some 11) (.move (.tmp 0)) (.pointer (some ⟨pb, 0, none⟩)) (by kernel_rfl) (by kernel_rfl) (by kernel_rfl) (by kernel_rfl) (by kernel_rfl) (fun _ _ _ h => h) ?_ ?_
  · intro o ho x
    unfold execOp
    rw [ho]
    go_simp
  simp only [Act.put, List.setIfInBounds_toArray, List.set_cons_zero, List.set_cons_succ]
  refine takeP 1 (some 12) (.move (.tmp 0)) (.pointer (some ⟨pb, 0, none⟩)) (by kernel_rfl) (by kernel_rfl) (by kernel_rfl) (by kernel_rfl) (by kernel_rfl) (fun _ _ _ h => h) ?_ ?_
  · intro o ho x
    unfold execOp
    rw [ho]
    go_simp
  simp only [Act.put, List.setIfInBounds_toArray, List.set_cons_zero, List.set_cons_succ]
  refine takeP 2 (some 13) (.nilCheck (.tmp 12)) (.pointer (some ⟨pb, 0, none⟩)) (by kernel_rfl) (by kernel_rfl) (by kernel_rfl) (by kernel_rfl) (by kernel_rfl) (fun _ _ _ h => h) ?_ ?_
  · intro o ho x
    unfold execOp
    rw [ho]
    go_simp
  simp only [Act.put, List.setIfInBounds_toArray, List.set_cons_zero, List.set_cons_succ]
  refine takeP 3 (some 14) (.fieldAddr 52 (.tmp 13) 4) (.pointer (some ⟨pb, 7, none⟩)) (by kernel_rfl) (by kernel_rfl) (by kernel_rfl) (by kernel_rfl) (by kernel_rfl) (fun _ _ _ h => h) ?_ ?_
  · intro o ho x
    unfold execOp
    rw [ho]
    go_simp
  simp only [Act.put, List.setIfInBounds_toArray, List.set_cons_zero, List.set_cons_succ]
  refine takeJ 4 (some 15) (.load 25 (.tmp 14)) (.slice ra n rc) (by kernel_rfl) (by kernel_rfl) (by kernel_rfl) (by kernel_rfl) (by kernel_rfl) (fun _ _ _ h => h) kc7 ?_ ?_
  · intro o ho x hx
    have hx0 := hx
    unfold execOp
    rw [ho]
    go_simp
  simp only [Act.put, List.setIfInBounds_toArray, List.set_cons_zero, List.set_cons_succ]
  refine wpAnyJ_ready (rs := [5]) (by kernel_rfl) (by simp) ?_
  refine stepJ 5 (some 16) (.load 35 (.tmp 3)) (by kernel_rfl) (fun o ho hd K hK => ?_) AllReadyJ.nil
  refine wp_load_row 35 (.tmp 3) ho w.heap.size rfl 35 #[.int .u64 (tw : Int), .int .i64 te, .pointer none, .int .u64 0, .int .i64 0, .pointer none, .string p, .string c, .slice ba bl bc] (0, 0) _ HN.out Yba.underlying35 rfl (by kernel_rfl) ?_
  rw [hd]
  refine hK.out _ _ (Or.inr kc7) ?_
  clear hK K ho hd o
  simp only [Act.put, List.setIfInBounds_toArray, List.set_cons_zero, List.set_cons_succ]
  refine wpAnyJ_ready (rs := [6]) (by kernel_rfl) (by simp) ?_
  refine stepJ 6 (some 17) (.buildSlice 25 1 #[(0, .tmp 16)]) (by kernel_rfl) (fun o ho hd K hK => ?_) AllReadyJ.nil
  unfold Oper.wp execOp
  rw [ho]
  go_simp
  have hbB : ((w1.alloc (.cells #[.int .u64 (tw : Int), .int .i64 te, .pointer none, .int .u64 0, .int .i64 0, .pointer none, .string p, .string c, .slice ba bl bc] 35)).drew).heap[pb]? = some (poolObj 1 (.slice ra n rc)) := (Below.heap_alloc _ _ _ (lt_of_blk HL.out)).trans HL.out
  obtain ⟨_, mc7, _⟩ := pool_cells hbB
  have HBB := show Hid (((w1.alloc (.cells #[.int .u64 (tw : Int), .int .i64 te, .pointer none, .int .u64 0, .int .i64 0, .pointer none, .string p, .string c, .slice ba bl bc] 35)).drew).heap[pb]? = some (poolObj 1 (.slice ra n rc))) from hbB
  refine hK.out _ _ (Or.inr mc7) ?_
  clear hK K ho hd o hbB mc7
  refine wpAnyJ_ready (rs := [7]) (by kernel_rfl) (by simp) ?_
  refine stepJ 7 (some 18) (.call { callee := .builtin .append, args := #[.tmp 15, .tmp 17], argTypes := #[25, 25] }) (by kernel_rfl) (fun o ho hd K hK => ?_) AllReadyJ.nil
  refine wp_append_lies _ (.tmp 15) (.tmp 17) 25 ho B 35 i35 _ 9 104 Yba.underlying25 hi35 hz35 hs35 hy35 rfl (by decide) (.slice ra n rc) n xs rfl (HO1.out.alloc _) ⟨w.heap.size + 1, 0, none⟩ 1 1 (ann tw te p c (.slice ba bl bc)) rfl rfl (cells_new w1 (w.heap.size + 1) hsz _ 35) (ann_one _ _ _ _ _ _ _) (by decide) (by unfold maxLen; omega) (by omega) (by simp; omega) _ rfl ?_
  intro g1 c1 w2 hown2 hgrow2 hat2 hlt2
  rw [hd]
  have H2 : Hid (Chg (fun k => k = pb ∨ (Value.slice ra n rc).ownBlock = some k) w w2) := ((HCH.out.alloc (.cells #[.int .u64 (tw : Int), .int .i64 te, .pointer none, .int .u64 0, .int .i64 0, .pointer none, .string p, .string c, .slice ba bl bc] 35)).drew).grown hgrow2 (fun k h _ => Or.inr h)
  have hb2 : w2.heap[pb]? = some (poolObj 1 (.slice ra n rc)) := (hgrow2.block pb (lt_of_blk HBB.out) (fun h => HAP.out h.symm)).trans HBB.out
  have HB2 := show Hid (w2.heap[pb]? = some (poolObj 1 (.slice ra n rc))) from hb2
  have HO2 := show Hid (w2.ownsRow B 35 9 (.slice (some ⟨g1, 0, none⟩) (n + 1) c1) (n + 1) (xs ++ ann tw te p c (.slice ba bl bc))) from hown2
  obtain ⟨n5, n7, nf⟩ := pool_cells hb2
  clear hown2 hgrow2 hat2 hb2 HBB kc5 kc7 kf
  refine hK.out _ _ (Or.inr n7) ?_
  clear hK K ho hd o
  simp only [Act.put, List.setIfInBounds_toArray, List.set_cons_zero, List.set_cons_succ]
  refine takeP 8 (some 19) (.nilCheck (.tmp 11)) (.pointer (some ⟨pb, 0, none⟩)) (by kernel_rfl) (by kernel_rfl) (by kernel_rfl) (by kernel_rfl) (by kernel_rfl) (fun _ _ _ h => h) ?_ ?_
  · intro o ho x
    unfold execOp
    rw [ho]
    go_simp
  simp only [Act.put, List.setIfInBounds_toArray, List.set_cons_zero, List.set_cons_succ]
  refine takeP 9 (some 20) (.fieldAddr 52 (.tmp 19) 4) (.pointer (some ⟨pb, 7, none⟩)) (by kernel_rfl) (by kernel_rfl) (by kernel_rfl) (by kernel_rfl) (by kernel_rfl) (fun _ _ _ h => h) ?_ ?_
  · intro o ho x
    unfold execOp
    rw [ho]
    go_simp
  simp only [Act.put, List.setIfInBounds_toArray, List.set_cons_zero, List.set_cons_succ]
  refine wpAnyJ_ready (rs := [10]) (by kernel_rfl) (by simp) ?_
  refine stepJ 10 (none) (.store 25 (.tmp 20) (.tmp 18)) (by kernel_rfl) (fun o ho hd K hK => ?_) AllReadyJ.nil
  unfold Oper.wp execOp
  rw [ho]
  go_simp
  refine hK.out _ _ (Or.inl (by kernel_rfl)) ?_
  clear hK K ho hd o
  refine wpAnyJ_done (by kernel_rfl) ?_ _
  unfold nrm
  have hb3 := pool_put HB2.out (.slice (some ⟨g1, 0, none⟩) (n + 1) c1)
  obtain ⟨j5, j7, jf⟩ := pool_cells hb3
  have jf5 := jf 5
  go_wp2_with fail
  refine leaves_cons (f := 14) (args := #[.pointer (some ⟨pb, 5, none⟩)]) (by simp) (by simp [go_sem]) ?_
  refine (unlock_deferred Yba.muLib ⟨pb, 5, none⟩ .returning _ j5 jf5).mono ?_
  rintro e u' w3 ⟨rfl, rfl, rfl⟩
  have hap2 : (Value.slice (some ⟨g1, 0, none⟩) (n + 1) c1).ownBlock ≠ some pb := row_apart HO2.out HB2.out (by decide)
  exact ⟨_, results_none rfl _ _ _, rfl, _, _, pool_lock hb3 0, owns_setCell (owns_setCell HO2.out hap2 _) hap2 _, ((H2.out.setCell (p := ⟨pb, 7, none⟩) (fun _ => Or.inl rfl) _).setCell (p := ⟨pb, 5, none⟩) (fun _ => Or.inl rfl) _)⟩
end Go.Proofs.Ybulkbtya
