import Derived.Test.YbulkbtwyAppN
import Derived.LaidEql
set_option linter.unusedVariables false
namespace Go.Proofs.Ybulkbtwy
open Go.RowKit

theorem run_neq_ptr_same {P : Program} (w : World) {t te : TypeId} {j : TypeInfo} (a : Addr) (hp : P.underlying t = some (.pointer te)) (hte : P.info? te = some j) :
    (binOp .neq t (.pointer (some a)) (.pointer (some a))).run P w = .ok (.bool false) w := by
  have h : ∀ d : Nat, (Op.equalIn (d + 1) t (.pointer (some a)) (.pointer (some a))).run P w = .ok true w := fun d => by
    simp [Op.equalIn, run_underlying hp, typeInfo, sizeOf, run_sameAddr_same, hte]
  simp only [binOp]
  simp [Op.equal, Op.maxDepth, h 9999]

theorem run_neq_nil_ptr {P : Program} (w : World) {t te : TypeId} (a : Addr) (hp : P.underlying t = some (.pointer te)) :
    (binOp .neq t (.pointer none) (.pointer (some a))).run P w = .ok (.bool true) w := by
  have h : ∀ d : Nat, (Op.equalIn (d + 1) t (.pointer none) (.pointer (some a))).run P w = .ok false w := fun d => by
    simp [Op.equalIn, run_underlying hp]
  simp only [binOp]
  simp [Op.equal, Op.maxDepth, h 9999]

theorem Yba.has39 : ∃ j, Yba.prog.info? 39 = some j := by
  cases h : Yba.prog.info? 39 with
  | some j => exact ⟨j, rfl⟩
  | none =>
    have : (Yba.prog.info? 39).isSome = true := by kernel_rfl
    rw [h] at this
    cases this

set_option maxRecDepth 100000 in
set_option maxHeartbeats 400000 in
/-- own, of a chunk that is the set's already. -/
theorem own_hit (kb gc cc k N p : Nat) (x1 x2 : Value) (w : World)
    (hc0 : w.cell? ⟨kb, 0, none⟩ = some (.slice (some ⟨gc, 0, none⟩) N cc)) (hk : k < N) (hN : N ≤ 1000000)
    (hp : w.cell? ⟨gc, k, none⟩ = some (.pointer (some ⟨p, 0, none⟩))) (hw : w.cell? ⟨p, 0, none⟩ = some (.pointer (some ⟨kb, 0, none⟩))) :
    Calls Yba.prog 12 #[.pointer (some ⟨kb, 0, none⟩), .int .i64 (k : Int)] w fun e w' => e = .returned (.pointer (some ⟨p, 0, none⟩)) ∧ w' = w := by
  obtain ⟨j39, hj39⟩ := Yba.has39
  have hpp := fun (w : World) (a : Addr) => run_neq_ptr_same (P := Yba.prog) w a Yba.underlying42 hj39
  go_enter Yba.func12, Yba.ntmps12
  go_wp2
  go_ret
  exact ⟨rfl, rfl⟩

set_option maxRecDepth 100000 in
set_option maxHeartbeats 400000 in
theorem append_own (kb B M N : Nat) (n d b o gs0 gc sc cc : Nat) (c : Ck) (lv bv : Value) (w : World)
    (hblk : w.heap[kb]? = some (.cells #[.slice (some ⟨gc, 0, none⟩) N cc, .slice (some ⟨gs0, 0, none⟩) N sc, .int .i64 (n : Int)] 39 (0, 0)))
    (hN : 1 ≤ N) (hNm : N ≤ 1000000)
    (hlast : w.cell? ⟨gs0, N - 1, none⟩ = some (.int .i32 (b : Int))) (hptr : w.cell? ⟨gc, N - 1, none⟩ = some (.pointer (some ⟨c.p, 0, none⟩)))
    (hck : CkAt w M c lv bv) (how : c.ow = .pointer (some ⟨kb, 0, none⟩)) (hoffs : ∀ x ∈ c.offs, x < 4096) (hlen : c.offs.length ≤ 1000000) (hM : M ≤ w.heap.size)
    (hclr : bits .andNot .i32 (d : Int) 4095 = (b : Int)) (hsub : (d : Int) - (b : Int) = (o : Int)) (hbd : b ≤ d) (ho : o < 4096) (hd : d < 1073741824) (hn : n ≤ 1000000) :
    Calls Yba.prog 9 #[.pointer (some ⟨kb, 0, none⟩), .int .i32 (d : Int)] w fun e w' => e = .returned (.tuple #[]) ∧ ∃ w1 lv' bv', CkAt w1 M { c with offs := c.offs ++ [o] } lv' bv' ∧
      Chg (fun k => k = c.p ∨ lv.ownBlock = some k ∨ bv.ownBlock = some k) w w1 ∧ w' = w1.setCell ⟨kb, 2, none⟩ (.int .i64 ((n : Int) + 1)) := by
  obtain ⟨hc0, hc1, hc2, hfz⟩ := set_cells hblk
  have hw0 : w.cell? ⟨c.p, 0, none⟩ = some (.pointer (some ⟨kb, 0, none⟩)) := by
    rw [← how]; exact cell_of_row w c.p 0 _ _ _ hck.1
  have HB := show Hid _ from hblk
  have HCK := show Hid (CkAt w M c lv bv) from hck
  clear hblk hck how
  obtain ⟨m, rfl⟩ : ∃ m, N = m + 1 := ⟨N - 1, by omega⟩
  simp only [Nat.add_sub_cancel] at hlast hptr
  go_enter Yba.func9, Yba.ntmps9
  go_wp2_with fail
  refine (own_hit kb gc cc m (m + 1) c.p .nilFunc .nilFunc w hc0 (by omega) hNm hptr hw0).mono ?_
  rintro e w' ⟨rfl, rfl⟩
  go_wp2_with fail
  refine (add_any M c lv bv o _ HCK.out hoffs hlen ho hM).mono ?_
  rintro e w1 ⟨rfl, lv', bv', hck1, hch1⟩
  have hb1 : w1.heap[kb]? = w'.heap[kb]? := by
    refine hch1.block kb (lt_of_blk HB.out) (fun h => ?_)
    rcases h with h | h | h
    · have e1 := HCK.out.1
      rw [← h, HB.out] at e1
      simp at e1
    · obtain ⟨cur, e⟩ := HCK.out.lrow h
      rw [HB.out] at e
      simp at e
    · obtain ⟨cur, e⟩ := HCK.out.brow h
      rw [HB.out] at e
      simp at e
  obtain ⟨kc0, kc1, kc2, kfz⟩ := set_cells (hb1.trans HB.out)
  have HCK1 := show Hid (CkAt w1 M { c with offs := c.offs ++ [o] } lv' bv') from hck1
  have HCG1 := show Hid _ from hch1
  clear hck1 hch1 hb1 hc0 hc1 hc2 hfz hlast hptr hw0 HCK HB
  go_wp2
  go_end0
  exact ⟨rfl, w1, lv', bv', HCK1.out, HCG1.out, rfl⟩
end Go.Proofs.Ybulkbtwy
