import Derived.Test.YbulkbtyaEq
set_option linter.unusedVariables false
namespace Go.Proofs.Ybulkbtya
open Go.RowKit

/-- A guarded operation that is wanted. -/
theorem stepG {P : Program} {ops : Array Oper} {Q : Exit → Act → World → Prop} {md : Region.Mode} {S : World → Prop} {late : Nat → Bool} (i : Nat) (d : Option Tmp) (op : Op) (gj : Nat) (gb : Bool) {fuel : Nat} {listed : Array Bool} {a : Act} {w : World} {rs : List Nat}
    (hi : shape ops i = some (d, op, some (gj, gb))) (hw : yielded ops a.tmps gj = some gb)
    (h : ∀ o : Oper, o.op = op → o.dst = d → ∀ K' : Act → World → Prop, Shut (∀ a w, Early late S i w → wpAnyJ P md ops Q (Early late S) fuel (listed.setIfInBounds i true) a w → K' a w) → Oper.wp P o a w K' Q)
    (hs : AllReadyJ P md ops Q (Early late S) fuel listed a w rs) : AllReadyJ P md ops Q (Early late S) fuel listed a w (i :: rs) := by
  obtain ⟨o, ho, hd, hop, hg⟩ := shape_spec hi
  refine AllReadyJ.cons ho (fun K' hK => ?_) hs
  rw [if_pos (by simp [Region.wanted, hg, hw])]
  exact h o hop hd K' hK

theorem order_long (a : Option Addr) (len cap : Nat) (w : World) (h : 1024 < len) : Calls Yba.prog 3 #[.slice a len cap] w fun e w' => e = .returned (.bool true) ∧ Below w.heap.size w w' := by
  have hd : decide ((1024 : Int) < (len : Int)) = true := by simp; omega
  go_enter Yba.func3, Yba.ntmps3
  go_wp2
  go_ret
  exact ⟨rfl, Below.refl _ _⟩

theorem it_cells {X : World} {b : Nat} {ns : Int} {p c : ByteArray} {bv : Value} (h : X.heap[b]? = some (.cells #[.int .i64 ns, .string p, .string c, bv] 29 (0, 0))) :
    X.cell? ⟨b, 0, none⟩ = some (.int .i64 ns) ∧ X.cell? ⟨b, 1, none⟩ = some (.string p) ∧ X.cell? ⟨b, 2, none⟩ = some (.string c) ∧ X.cell? ⟨b, 3, none⟩ = some bv :=
  ⟨cell_of_row X _ 0 _ _ _ h, cell_of_row X _ 1 _ _ _ h, cell_of_row X _ 2 _ _ _ h, cell_of_row X _ 3 _ _ _ h⟩
theorem an_cells {X : World} {b : Nat} {n : Nat} {s : Int} {p c : ByteArray} {bv : Value} (h : X.heap[b]? = some (.cells #[.int .u64 (n : Int), .int .i64 s, .pointer none, .int .u64 0, .int .i64 0, .pointer none, .string p, .string c, bv] 35 (0, 0))) :
    X.cell? ⟨b, 0, none⟩ = some (.int .u64 (n : Int)) ∧ X.cell? ⟨b, 1, none⟩ = some (.int .i64 s) ∧ X.cell? ⟨b, 2, none⟩ = some (.pointer none) ∧ X.cell? ⟨b, 3, none⟩ = some (.int .u64 0) ∧ X.cell? ⟨b, 4, none⟩ = some (.int .i64 0) ∧ X.cell? ⟨b, 5, none⟩ = some (.pointer none) ∧
      X.cell? ⟨b, 6, none⟩ = some (.string p) ∧ X.cell? ⟨b, 7, none⟩ = some (.string c) ∧ X.cell? ⟨b, 8, none⟩ = some bv :=
  ⟨cell_of_row X _ 0 _ _ _ h, cell_of_row X _ 1 _ _ _ h, cell_of_row X _ 2 _ _ _ h, cell_of_row X _ 3 _ _ _ h, cell_of_row X _ 4 _ _ _ h, cell_of_row X _ 5 _ _ _ h, cell_of_row X _ 6 _ _ _ h, cell_of_row X _ 7 _ _ _ h, cell_of_row X _ 8 _ _ _ h⟩

theorem cell_lt' {w : World} {a : Addr} {v : Value} (h : w.cell? a = some v) : a.block < w.heap.size := by
  unfold World.cell? at h
  cases hb : w.heap[a.block]? with
  | none => simp [hb] at h
  | some o => exact lt_of_blk hb

set_option maxRecDepth 100000 in
set_option maxHeartbeats 1000000 in
theorem order_walk (a0 : Option Addr) (len cap : Nat) (its : List It) (w : World) (hlen : len ≤ 1024) (hpos : len ≠ 0) (h : IsItems w a0 len cap its) (hby : ∀ t ∈ its, ∃ ns : List Int, t.zs = ns.map (Value.int .u8)) :
    Calls Yba.prog 3 #[.slice a0 len cap] w fun e w' => e = .returned (.bool true) ∧ Below w.heap.size w w' := by
  have hdec : decide ((1024 : Int) < (len : Int)) = false := by simp; omega
  have hdez : decide ((len : Int) = 0) = false := by simp; omega
  have HI := show Hid (IsItems w a0 len cap its) from h
  have HBY := show Hid (∀ t ∈ its, ∃ ns : List Int, t.zs = ns.map (Value.int .u8)) from hby
  clear h hby
  go_enter Yba.func3, Yba.ntmps3
  go_wp2_with fail
  refine (build_any a0 len cap its w hlen HI.out).mono ?_
  rintro e w1 ⟨pb, l, ra, rc, rfl, hpb, hlm, P1⟩
  have hll : l.length = len := by
    have := congrArg List.length hlm
    rw [List.length_map, HI.out.1] at this
    exact this
  have hbk := P1.blk
  have hrw := P1.row
  have hone := P1.one
  have hlt : ∀ i, i < len → ∃ q, l[i]? = some q ∧ its[i]? = some q.1 := fun i hi => ⟨l[i]'(by omega), List.getElem?_eq_getElem (by omega), by rw [← hlm, List.getElem?_map, List.getElem?_eq_getElem (show i < l.length by omega)]; rfl⟩
  rw [hll] at hbk hrw
  have HP := show Hid (PSt w w1 pb l ra rc) from P1
  have HBK := show Hid (w1.heap[pb]? = some (poolObj 0 (.slice ra len rc))) from hbk
  have HRW := show Hid (w1.ownsRow w.heap.size 35 9 (.slice ra len rc) len (l.flatMap annOf)) from hrw
  have HONE := show Hid (∀ u ∈ l.flatMap annOf, u.oneCell' = true) from hone
  have HLT := show Hid (∀ i, i < len → ∃ q, l[i]? = some q ∧ its[i]? = some q.1) from hlt
  clear P1 hbk hrw hone hlt
  go_wp2_with fail
  refine (received_any pb _ len ra rc _ w1 HBK.out HRW.out HONE.out hlen).mono ?_
  rintro e w2 ⟨ga, gc, rfl, hg2, hnil, hc2⟩
  have HG2 := show Hid (w2.ownsRow w1.heap.size 35 9 (.slice ga len gc) len (l.flatMap annOf)) from hg2
  have HC2 := show Hid (Chg (fun _ => False) w1 w2) from hc2
  clear hg2 hc2 hnil
  go_wp2_with fail
  go_loopw [5] (fun i wr => ∃ m : Nat, m ≤ len ∧ i = .int .i64 m ∧ Chg (fun _ => False) w2 wr) (fun i _ => len - (intOf i).toNat)
  case atStart => exact ⟨0, Nat.zero_le _, rfl, Chg.refl _ _⟩
  case round =>
    obtain ⟨m, hm, rfl, hcr⟩ := hrel
    have hc1r := HC2.out.trans hcr
    have hPr : PSt w wr pb l ra rc := HP.out.chg hc1r
    have hown := hcr.owns HG2.out (fun _ _ h => h)
    by_cases hml : m < len
    · obtain ⟨q, hq, hqi⟩ := HLT.out m hml
      obtain ⟨g, rfl⟩ : ∃ g, ga = some ⟨g, 0, none⟩ := by
        rcases owns_form hown with ⟨_, h, _⟩ | ⟨g, c, h, _⟩
        · omega
        · injection h with h1 h2 h3
          exact ⟨g, h1⟩
      obtain ⟨x, rfl, hI⟩ : ∃ x : Addr, a0 = some x ∧ ItemAt wr x m q.1 := by
        rcases HI.out.2 with ⟨_, h, _⟩ | ⟨x, h, hx⟩
        · omega
        · exact ⟨x, h, (hx m q.1 hqi).chg (Chg.ofBelow hPr.bel) (fun j hj h => by omega)⟩
      obtain ⟨ns, hns⟩ := HBY.out q.1 (List.mem_of_getElem? hqi)
      have hbq := hPr.bod q (List.mem_of_getElem? hq)
      obtain ⟨va, vc, hva⟩ := owns_slice hbq
      obtain ⟨vl, hvl⟩ : ∃ vl, vl = q.1.bl := ⟨_, rfl⟩
      rw [← hvl] at hva
      rw [hva, ← hvl, hns] at hbq
      have hat : ∀ k v, k < 9 → (annOf q)[k]? = some v → wr.cell? ⟨g, m * 9 + k, none⟩ = some v := fun k v hk hv => by
        rw [hown.cellAt _ (by omega)]
        exact ann_at l m k q v hq hk hv
      have d0 : wr.cell? ⟨g, m * 9, none⟩ = some (.int .u64 (tns q.1.ns : Int)) := hat 0 _ (by decide) rfl
      have d1 := hat 1 _ (by decide) rfl
      have d2 := hat 2 _ (by decide) rfl
      have d3 := hat 3 _ (by decide) rfl
      have d4 := hat 4 _ (by decide) rfl
      have d5 := hat 5 _ (by decide) rfl
      have d6 := hat 6 _ (by decide) rfl
      have d7 := hat 7 _ (by decide) rfl
      have d8 : wr.cell? ⟨g, m * 9 + 8, none⟩ = some (.slice va vl vc) := hat 8 _ (by decide) (by rw [← hva]; rfl)
      have c0 := hI.c0
      have c1 := hI.c1
      have c2 := hI.c2
      have c3 := hI.c3
      have hlo := hI.lo
      have hhi := hI.hi
      have HBD := show Hid (BodyAt wr q.1) from hI.body
      have HNS := show Hid (q.1.zs = ns.map (Value.int .u8)) from hns
      have HBQ := show Hid (wr.ownsRow w.heap.size 5 1 (.slice va vl vc) vl (ns.map (Value.int .u8))) from hbq
      have HCR := show Hid (Chg (fun _ => False) w2 wr) from hcr
      clear hI hns hbq hcr hat hown hPr hc1r hva hvl
      have hxb : (x.add (m * 4)).block < wr.heap.size := cell_lt' c0
      have hgb : g < wr.heap.size := cell_lt' d0
      go_wp2_with fail
      have HNI : Hid (((wr.alloc (.cells #[.int .i64 q.1.ns, .string q.1.p, .string q.1.c, .slice q.1.ba q.1.bl q.1.bc] 29)).alloc (.cells #[.int .u64 (tns q.1.ns : Int), .int .i64 (tsec q.1.ns), .pointer none, .int .u64 0, .int .i64 0, .pointer none, .string q.1.p, .string q.1.c, .slice va vl vc] 35)).heap[wr.heap.size]? = some (.cells #[.int .i64 q.1.ns, .string q.1.p, .string q.1.c, .slice q.1.ba q.1.bl q.1.bc] 29 (0, 0))) := (Below.heap_alloc _ _ _ (by simp)).trans (heap_alloc_new _ _)
      have HNA : Hid (((wr.alloc (.cells #[.int .i64 q.1.ns, .string q.1.p, .string q.1.c, .slice q.1.ba q.1.bl q.1.bc] 29)).alloc (.cells #[.int .u64 (tns q.1.ns : Int), .int .i64 (tsec q.1.ns), .pointer none, .int .u64 0, .int .i64 0, .pointer none, .string q.1.p, .string q.1.c, .slice va vl vc] 35)).heap[wr.heap.size + 1]? = some (.cells #[.int .u64 (tns q.1.ns : Int), .int .i64 (tsec q.1.ns), .pointer none, .int .u64 0, .int .i64 0, .pointer none, .string q.1.p, .string q.1.c, .slice va vl vc] 35 (0, 0))) := heap_alloc2_new _ _ _
      have HC3 : Hid (Chg (fun _ => False) wr ((wr.alloc (.cells #[.int .i64 q.1.ns, .string q.1.p, .string q.1.c, .slice q.1.ba q.1.bl q.1.bc] 29)).alloc (.cells #[.int .u64 (tns q.1.ns : Int), .int .i64 (tsec q.1.ns), .pointer none, .int .u64 0, .int .i64 0, .pointer none, .string q.1.p, .string q.1.c, .slice va vl vc] 35))) := ((Chg.refl _ _).alloc _).alloc _
      obtain ⟨w3, hw3⟩ : ∃ w3 : World, w3 = (wr.alloc (.cells #[.int .i64 q.1.ns, .string q.1.p, .string q.1.c, .slice q.1.ba q.1.bl q.1.bc] 29)).alloc (.cells #[.int .u64 (tns q.1.ns : Int), .int .i64 (tsec q.1.ns), .pointer none, .int .u64 0, .int .i64 0, .pointer none, .string q.1.p, .string q.1.c, .slice va vl vc] 35) := ⟨_, rfl⟩
      simp only [← hw3] at HNI HNA HC3 ⊢
      clear hw3 c0 c1 c2 c3 d0 d1 d2 d3 d4 d5 d6 d7 d8
      have HS : Hid (∀ X : World, X.heap[wr.heap.size]? = some (.cells #[.int .i64 q.1.ns, .string q.1.p, .string q.1.c, .slice q.1.ba q.1.bl q.1.bc] 29 (0, 0)) → X.heap[wr.heap.size + 1]? = some (.cells #[.int .u64 (tns q.1.ns : Int), .int .i64 (tsec q.1.ns), .pointer none, .int .u64 0, .int .i64 0, .pointer none, .string q.1.p, .string q.1.c, .slice va vl vc] 35 (0, 0)) → X.cell? ⟨wr.heap.size, 0, none⟩ = some (.int .i64 q.1.ns) ∧ X.cell? ⟨wr.heap.size + 1, 0, none⟩ = some (.int .u64 (tns q.1.ns : Int)) ∧ X.cell? ⟨wr.heap.size + 1, 1, none⟩ = some (.int .i64 (tsec q.1.ns)) ∧ X.cell? ⟨wr.heap.size + 1, 2, none⟩ = some (.pointer none) ∧ X.cell? ⟨wr.heap.size + 1, 3, none⟩ = some (.int .u64 0) ∧ X.cell? ⟨wr.heap.size + 1, 4, none⟩ = some (.int .i64 0) ∧ X.cell? ⟨wr.heap.size + 1, 5, none⟩ = some (.pointer none)) := fun X h1 h2 => by
        obtain ⟨e0, _⟩ := it_cells h1
        obtain ⟨f0, f1, f2, f3, f4, f5, _⟩ := an_cells h2
        exact ⟨e0, f0, f1, f2, f3, f4, f5⟩
      have hS := HS.out w3 HNI.out HNA.out
      refine wp_region_N (late := fun j => j == 0 || j == 2 || j == 3) (S := fun X => X.cell? ⟨wr.heap.size, 0, none⟩ = some (.int .i64 q.1.ns) ∧ X.cell? ⟨wr.heap.size + 1, 0, none⟩ = some (.int .u64 (tns q.1.ns : Int)) ∧ X.cell? ⟨wr.heap.size + 1, 1, none⟩ = some (.int .i64 (tsec q.1.ns)) ∧ X.cell? ⟨wr.heap.size + 1, 2, none⟩ = some (.pointer none) ∧ X.cell? ⟨wr.heap.size + 1, 3, none⟩ = some (.int .u64 0) ∧ X.cell? ⟨wr.heap.size + 1, 4, none⟩ = some (.int .i64 0) ∧ X.cell? ⟨wr.heap.size + 1, 5, none⟩ = some (.pointer none)) (by kernel_rfl) ?_
      refine takeP 0 (some 41) (.fieldAddr 35 (.tmp 7) 0) (.pointer (some ⟨wr.heap.size + 1, 0, none⟩)) (by kernel_rfl) (by kernel_rfl) (by kernel_rfl) (by kernel_rfl) (by kernel_rfl) (fun _ _ _ h => h) ?_ ?_
      · intro o ho x
        unfold execOp
        rw [ho]
        go_simp
      simp only [Act.put, List.setIfInBounds_toArray, List.set_cons_zero, List.set_cons_succ]
      refine takeP 2 (some 43) (.build 33 #[]) (.agg #[.int .u64 0, .int .i64 0, .pointer none]) (by kernel_rfl) (by kernel_rfl) (by kernel_rfl) (by kernel_rfl) (by kernel_rfl) (fun _ _ _ h => h) ?_ ?_
      · intro o ho x
        unfold execOp
        rw [ho]
        go_simp
      simp only [Act.put, List.setIfInBounds_toArray, List.set_cons_zero, List.set_cons_succ]
      refine takeP 3 (some 44) (.fieldAddr 29 (.tmp 6) 0) (.pointer (some ⟨wr.heap.size, 0, none⟩)) (by kernel_rfl) (by kernel_rfl) (by kernel_rfl) (by kernel_rfl) (by kernel_rfl) (fun _ _ _ h => h) ?_ ?_
      · intro o ho x
        unfold execOp
        rw [ho]
        go_simp
      simp only [Act.put, List.setIfInBounds_toArray, List.set_cons_zero, List.set_cons_succ]
      refine takeJ 1 (some 42) (.load 33 (.tmp 41)) (.agg #[.int .u64 (tns q.1.ns : Int), .int .i64 (tsec q.1.ns), .pointer none]) (by kernel_rfl) (by kernel_rfl) (by kernel_rfl) (by kernel_rfl) (by kernel_rfl) (fun _ _ _ h => h) hS ?_ ?_
      · intro o ho x hx
        obtain ⟨x0, x1, x2, x3, x4, x5, x6⟩ := hx
        unfold execOp
        rw [ho]
        go_simp
      simp only [Act.put, List.setIfInBounds_toArray, List.set_cons_zero, List.set_cons_succ]
      refine takeJ 4 (some 45) (.load 2 (.tmp 44)) (.int .i64 q.1.ns) (by kernel_rfl) (by kernel_rfl) (by kernel_rfl) (by kernel_rfl) (by kernel_rfl) (fun _ _ _ h => h) hS ?_ ?_
      · intro o ho x hx
        obtain ⟨x0, x1, x2, x3, x4, x5, x6⟩ := hx
        unfold execOp
        rw [ho]
        go_simp
      simp only [Act.put, List.setIfInBounds_toArray, List.set_cons_zero, List.set_cons_succ]
      have HCQ : Hid (Chg (fun _ => False) w3 w3.drew) := (Chg.refl _ _).drew
      refine wpAnyJ_ready (rs := [5]) (by kernel_rfl) (by simp) ?_
      refine stepJ 5 (some 46) (.call { callee := .value (.func 8), args := #[.tmp 43, .tmp 45], argTypes := #[33, 38] }) (by kernel_rfl) (fun o ho hd K hK => ?_) AllReadyJ.nil
      unfold Oper.wp execOp
      rw [ho]
      go_simp
      refine (add_any q.1.ns _ hlo hhi).mono ?_
      rintro e w4 ⟨rfl, hc4⟩
      have HC4 : Hid (Chg (fun _ => False) w3 w4) := HCQ.out.trans hc4
      have HI4 : Hid (w4.heap[wr.heap.size]? = some (.cells #[.int .i64 q.1.ns, .string q.1.p, .string q.1.c, .slice q.1.ba q.1.bl q.1.bc] 29 (0, 0))) := (HC4.out.block _ (lt_of_blk HNI.out) id).trans HNI.out
      have HA4 : Hid (w4.heap[wr.heap.size + 1]? = some (.cells #[.int .u64 (tns q.1.ns : Int), .int .i64 (tsec q.1.ns), .pointer none, .int .u64 0, .int .i64 0, .pointer none, .string q.1.p, .string q.1.c, .slice va vl vc] 35 (0, 0))) := (HC4.out.block _ (lt_of_blk HNA.out) id).trans HNA.out
      have hS4 := HS.out w4 HI4.out HA4.out
      refine hK.out _ _ (Or.inr hS4) ?_
      clear hK K ho hd o hc4
      try simp only [Act.put, List.setIfInBounds_toArray, List.set_cons_zero, List.set_cons_succ]
      refine wpAnyJ_ready (rs := [6]) (by kernel_rfl) (by simp) ?_
      refine stepJ 6 (some 47) (.call { callee := .value (.func 7), args := #[.tmp 42, .tmp 46], argTypes := #[33, 33] }) (by kernel_rfl) (fun o ho hd K hK => ?_) AllReadyJ.nil
      unfold Oper.wp execOp
      rw [ho]
      go_simp
      refine (equal_same (tns q.1.ns) (tsec q.1.ns) _ (by have := tns_lt q.1.ns; omega)).mono ?_
      rintro e w5 ⟨rfl, hc5⟩
      have HC5 : Hid (Chg (fun _ => False) w3 w5) := HC4.out.trans hc5
      have HI5 : Hid (w5.heap[wr.heap.size]? = some (.cells #[.int .i64 q.1.ns, .string q.1.p, .string q.1.c, .slice q.1.ba q.1.bl q.1.bc] 29 (0, 0))) := (HC5.out.block _ (lt_of_blk HNI.out) id).trans HNI.out
      have HA5 : Hid (w5.heap[wr.heap.size + 1]? = some (.cells #[.int .u64 (tns q.1.ns : Int), .int .i64 (tsec q.1.ns), .pointer none, .int .u64 0, .int .i64 0, .pointer none, .string q.1.p, .string q.1.c, .slice va vl vc] 35 (0, 0))) := (HC5.out.block _ (lt_of_blk HNA.out) id).trans HNA.out
      have hS5 := HS.out w5 HI5.out HA5.out
      refine hK.out _ _ (Or.inr hS5) ?_
      clear hK K ho hd o hc5
      try simp only [Act.put, List.setIfInBounds_toArray, List.set_cons_zero, List.set_cons_succ]
      refine wpAnyJ_ready (rs := [7]) (by kernel_rfl) (by simp) ?_
      refine stepJ 7 (some 48) (.unOp .not 4 (.tmp 47)) (by kernel_rfl) (fun o ho hd K hK => ?_) AllReadyJ.nil
      unfold Oper.wp execOp
      rw [ho]
      go_simp
      refine hK.out _ _ (Or.inr hS5) ?_
      clear hK K ho hd o
      try simp only [Act.put, List.setIfInBounds_toArray, List.set_cons_zero, List.set_cons_succ]
      refine wpAnyJ_ready (rs := [8]) (by kernel_rfl) (by simp) ?_
      refine stepJ 8 (some 49) (.move (.tmp 48)) (by kernel_rfl) (fun o ho hd K hK => ?_) AllReadyJ.nil
      unfold Oper.wp execOp
      rw [ho]
      go_simp
      refine hK.out _ _ (Or.inr hS5) ?_
      clear hK K ho hd o
      try simp only [Act.put, List.setIfInBounds_toArray, List.set_cons_zero, List.set_cons_succ]
      refine wpAnyJ_ready (rs := [9]) (by kernel_rfl) (by simp) ?_
      refine stepG 9 (some 50) (.fieldAddr 35 (.tmp 7) 1) 8 false (by kernel_rfl) (by rfl) (fun o ho hd K hK => ?_) AllReadyJ.nil
      unfold Oper.wp execOp
      rw [ho]
      go_simp
      refine hK.out _ _ (Or.inr hS5) ?_
      clear hK K ho hd o
      try simp only [Act.put, List.setIfInBounds_toArray, List.set_cons_zero, List.set_cons_succ]
      refine wpAnyJ_ready (rs := [10]) (by kernel_rfl) (by simp) ?_
      refine stepG 10 (some 51) (.load 33 (.tmp 50)) 8 false (by kernel_rfl) (by rfl) (fun o ho hd K hK => ?_) AllReadyJ.nil
      have hS5b := hS5
      obtain ⟨x0, x1, x2, x3, x4, x5, x6⟩ := hS5b
      unfold Oper.wp execOp
      rw [ho]
      go_simp
      refine hK.out _ _ (Or.inr hS5) ?_
      clear hK K ho hd o
      try simp only [Act.put, List.setIfInBounds_toArray, List.set_cons_zero, List.set_cons_succ]
      refine wpAnyJ_ready (rs := [11]) (by kernel_rfl) (by simp) ?_
      refine stepG 11 (some 52) (.call { callee := .value (.func 9), args := #[.tmp 51], argTypes := #[33] }) 8 false (by kernel_rfl) (by rfl) (fun o ho hd K hK => ?_) AllReadyJ.nil
      unfold Oper.wp execOp
      rw [ho]
      go_simp
      refine (isZero_zero _).mono ?_
      rintro e w6 ⟨rfl, hc6⟩
      have HC6 : Hid (Chg (fun _ => False) w3 w6) := HC5.out.trans hc6
      have HI6 : Hid (w6.heap[wr.heap.size]? = some (.cells #[.int .i64 q.1.ns, .string q.1.p, .string q.1.c, .slice q.1.ba q.1.bl q.1.bc] 29 (0, 0))) := (HC6.out.block _ (lt_of_blk HNI.out) id).trans HNI.out
      have HA6 : Hid (w6.heap[wr.heap.size + 1]? = some (.cells #[.int .u64 (tns q.1.ns : Int), .int .i64 (tsec q.1.ns), .pointer none, .int .u64 0, .int .i64 0, .pointer none, .string q.1.p, .string q.1.c, .slice va vl vc] 35 (0, 0))) := (HC6.out.block _ (lt_of_blk HNA.out) id).trans HNA.out
      have hS6 := HS.out w6 HI6.out HA6.out
      refine hK.out _ _ (Or.inr hS6) ?_
      clear hK K ho hd o hc6
      try simp only [Act.put, List.setIfInBounds_toArray, List.set_cons_zero, List.set_cons_succ]
      refine wpAnyJ_ready (rs := [12]) (by kernel_rfl) (by simp) ?_
      refine stepG 12 (some 53) (.unOp .not 4 (.tmp 52)) 8 false (by kernel_rfl) (by rfl) (fun o ho hd K hK => ?_) AllReadyJ.nil
      unfold Oper.wp execOp
      rw [ho]
      go_simp
      refine hK.out _ _ (Or.inr hS6) ?_
      clear hK K ho hd o
      try simp only [Act.put, List.setIfInBounds_toArray, List.set_cons_zero, List.set_cons_succ]
      refine wpAnyJ_ready (rs := [13]) (by kernel_rfl) (by simp) ?_
      refine stepJ 13 (some 54) (.pick (.tmp 49) (.const (.bool true)) (.tmp 53)) (by kernel_rfl) (fun o ho hd K hK => ?_) AllReadyJ.nil
      unfold Oper.wp execOp
      rw [ho]
      go_simp
      refine hK.out _ _ (Or.inr hS6) ?_
      clear hK K ho hd o
      try simp only [Act.put, List.setIfInBounds_toArray, List.set_cons_zero, List.set_cons_succ]
      refine wpAnyJ_done (by kernel_rfl) ?_ _
      unfold nrm
      obtain ⟨i0, i1, i2, i3⟩ := it_cells HI6.out
      obtain ⟨_, _, _, _, _, _, n6, n7, n8⟩ := an_cells HA6.out
      have hcr6 : Chg (fun _ => False) wr w6 := HC3.out.trans HC6.out
      have HCV1 : Hid ((convert 27 9 (.slice va vl vc)).run Yba.prog w6 = .ok (.string (strOfNums ns)) w6) := conv_owned (hcr6.owns HBQ.out (fun _ _ h => h))
      have HCV2 : Hid ((convert 27 9 (.slice q.1.ba q.1.bl q.1.bc)).run Yba.prog w6 = .ok (.string (strOfNums ns)) w6) := conv_body (HBD.out.chg hcr6 (fun _ _ => id)) HNS.out
      have HCR6 : Hid (Chg (fun _ => False) w2 w6) := HCR.out.trans hcr6
      clear hcr6 hS hS4 hS5 hS6
      go_wp2_with fail
      refine (bytes_same _ _ _ _ HCV1.out HCV2.out).mono ?_
      rintro e w' ⟨rfl, rfl⟩
      go_wp2_with fail
      go_roundw
      case rel => exact ⟨m + 1, by omega, by go_num, HCR6.out⟩
      case measure => simp [intOf]; omega
    · obtain rfl : m = len := by omega
      have hbr := hPr.blk
      rw [hll] at hbr
      obtain ⟨_, kc7, _⟩ := pool_cells hbr
      have HBL := show Hid (Below w.heap.size w wr) from hPr.bel
      clear hbr hPr hown hc1r hcr
      go_wp2_with fail
      go_ret
      exact ⟨by simp, HBL.out⟩

theorem run_neq_sn (w : World) (a : Option Addr) (l c : Nat) : (binOp .neq 25 (.slice a l c) (.slice none 0 0)).run Yba.prog w = .ok (.bool (!a.isNone)) w := run_neq_slice_nil w 25 35 a l c Yba.underlying25

set_option maxRecDepth 100000 in
set_option maxHeartbeats 1000000 in
theorem order_zero (a0 : Option Addr) (cap : Nat) (w : World) (h : IsItems w a0 0 cap []) :
    Calls Yba.prog 3 #[.slice a0 0 cap] w fun e w' => e = .returned (.bool true) ∧ Below w.heap.size w w' := by
  have HI := show Hid (IsItems w a0 0 cap []) from h
  clear h
  have hne := run_neq_sn
  go_enter Yba.func3, Yba.ntmps3
  go_wp2_with fail
  refine (build_any a0 0 cap [] w (by decide) HI.out).mono ?_
  rintro e w1 ⟨pb, l, ra, rc, rfl, hpb, hlm, P1⟩
  obtain rfl : l = [] := by simpa using hlm
  obtain ⟨rfl, rfl⟩ := P1.nil rfl
  have HP := show Hid (PSt w w1 pb [] none 0) from P1
  clear P1
  go_wp2_with fail
  refine (received_any pb _ 0 none 0 _ w1 HP.out.blk HP.out.row HP.out.one (by decide)).mono ?_
  rintro e w2 ⟨ga, gc, rfl, hg2, hnil, hc2⟩
  obtain ⟨rfl, rfl⟩ := hnil rfl rfl
  have hP2 : PSt w w2 pb [] none 0 := HP.out.chg hc2
  have hb2 := hP2.blk
  obtain ⟨_, kc7, _⟩ := pool_cells hb2
  have HBL := show Hid (Below w.heap.size w w2) from hP2.bel
  clear hg2 hc2 hnil hP2 hb2
  go_wp2_with fail
  go_loopw [5] (fun i wr => i = .int .i64 0 ∧ wr = w2) (fun i _ => 0)
  case atStart => exact ⟨rfl, rfl⟩
  case round =>
    obtain ⟨rfl, rfl⟩ := hrel
    go_wp2_with fail
    go_ret
    exact ⟨by simp, HBL.out⟩

theorem order_any (a0 : Option Addr) (len cap : Nat) (its : List It) (w : World) (h : IsItems w a0 len cap its) (hby : ∀ t ∈ its, ∃ ns : List Int, t.zs = ns.map (Value.int .u8)) :
    Calls Yba.prog 3 #[.slice a0 len cap] w fun e w' => e = .returned (.bool true) ∧ Below w.heap.size w w' := by
  by_cases hl : 1024 < len
  · exact order_long a0 len cap w hl
  · by_cases h0 : len = 0
    · subst h0
      obtain rfl := List.eq_nil_of_length_eq_zero h.1
      exact order_zero a0 cap w h
    · exact order_walk a0 len cap its w (by omega) h0 h hby
end Go.Proofs.Ybulkbtya
