import Derived.Test.YbulkbtwyChunk
import Derived.WalkSpells
import Derived.WalkLawsBesides
import Derived.Outline
import Derived.BigRegion
import Derived.BigQuiet
import Derived.Deep.AppendLies
namespace Go.Proofs.Ybulkbtwy
open Go.RowKit

theorem Yba.info34 : (Yba.prog.info? 34).map (fun i => (i.zero, i.size, i.bytes)) = some (some (.int .u16 0), 1, 2) := by kernel_rfl
theorem Yba.info52 : (Yba.prog.info? 52).map (fun i => (i.zero, i.size, i.bytes)) = some (some (.int .u64 0), 1, 8) := by kernel_rfl

theorem u16s_snoc (offs : List Nat) (o : Nat) : u16s (offs ++ [o]) = u16s offs ++ [.int .u16 (o : Int)] := by simp [u16s]
theorem u64s_at (ws : List Int) (j : Nat) (hj : j < ws.length) : (u64s ws)[j]? = some (.int .u64 (ws.getD j 0)) := by simp [u64s, hj]
theorem u16s_at (offs : List Nat) (j : Nat) (hj : j < offs.length) : (u16s offs)[j]? = some (.int .u16 ((offs.getD j 0 : Nat) : Int)) := by simp [u16s, hj]
theorem u64s_setBit (ws : List Int) (o : Nat) : u64s (setBit ws o) = (u64s ws).set (o / 64) (.int .u64 (bits .or .u64 (ws[o / 64]?.getD 0) (IntKind.u64.wrap (2 ^ (o % 64))))) := by
  simp [u64s, setBit, orBit, List.map_set]

set_option maxHeartbeats 400000 in
theorem add_bits (B : Nat) (p : Nat) (ow : Value) (base : Nat) (offs : List Nat) (g cap : Nat) (o : Nat) (w : World)
    (hb : w.heap[p]? = some (.cells #[ow, .int .i32 (base : Int), .int .i32 (offs.length : Int), .slice none 0 0, .slice (some ⟨g, 0, none⟩) 64 cap] 51 (0, 0)))
    (hown : w.ownsRow B 52 1 (.slice (some ⟨g, 0, none⟩) 64 cap) 64 (u64s (words offs))) (hn : offs.length ≤ 1000000) (ho : o < 4096) :
    Calls Yba.prog 13 #[.pointer (some ⟨p, 0, none⟩), .int .i32 (o : Int)] w fun e w' => e = .returned (.tuple #[]) ∧
      w'.heap[p]? = some (.cells #[ow, .int .i32 (base : Int), .int .i32 ((offs ++ [o]).length : Int), .slice none 0 0, .slice (some ⟨g, 0, none⟩) 64 cap] 51 (0, 0)) ∧
      w'.ownsRow B 52 1 (.slice (some ⟨g, 0, none⟩) 64 cap) 64 (u64s (words (offs ++ [o]))) ∧ Chg (fun k => k = p ∨ k = g) w w' := by
  have hneq := fun (w : World) (a : Option Addr) (n c n' c' : Nat) => run_neq_slice_nil_any (P := Yba.prog) w 49 52 a n c n' c' Yba.underlying49
  have hand := i32_and63 o (by omega)
  have hne : g ≠ p := fun h => row_apart hown hb (by decide) (by rw [h]; rfl)
  have hq : w.cell? ⟨g, o / 64, none⟩ = some (.int .u64 ((words offs).getD (o / 64) 0)) := by
    rw [hown.cellAt (o / 64) (by omega)]; exact u64s_at _ _ (by rw [words_length]; omega)
  have hfz : ∀ j, w.frozen? ⟨g, j, none⟩ = false := fun j => hown.frozenAt j
  have hc2 : w.cell? ⟨p, 2, none⟩ = some (.int .i32 (offs.length : Int)) := cell_of_row w p 2 _ _ _ hb
  have hc4 : w.cell? ⟨p, 4, none⟩ = some (.slice (some ⟨g, 0, none⟩) 64 cap) := cell_of_row w p 4 _ _ _ hb
  have hf2 : w.frozen? ⟨p, 2, none⟩ = false := frozen_of_row w p 2 _ _ hb
  have HW : Hid (words (offs ++ [o]) = setBit (words offs) o) := words_snoc offs o
  obtain ⟨ws, hws⟩ : ∃ ws, ws = words offs := ⟨_, rfl⟩
  rw [← hws] at hq hown HW
  have HB := show Hid _ from hb
  have HO := show Hid _ from hown
  clear hws hb hown
  go_enter Yba.func13, Yba.ntmps13
  go_wp2
  go_region
  go_wp2
  refine bodyPost_ret (results_none rfl _ _ _) rfl ?_
  refine ⟨rfl, ?_, ?_, ?_⟩
  · show ((w.setCell ⟨p, 2, none⟩ _).setCell ⟨g, o / 64, none⟩ _).heap[p]? = _
    rw [heap_setCell_other _ _ _ _ (show p ≠ g from fun h => hne h.symm), heap_setCell_same w p 2 _ 51 _ HB.out]
    simp
  · show ((w.setCell ⟨p, 2, none⟩ _).setCell ⟨g, o / 64, none⟩ _).ownsRow _ _ _ _ _ _
    rw [HW.out, u64s_setBit]
    exact ((owns_setCell HO.out (show Value.ownBlock (.slice (some ⟨g, 0, none⟩) 64 cap) ≠ some p from fun h => hne (Option.some.inj h)) _).stored _ _).1
  · exact (((Chg.refl _ w).setCell (fun _ => Or.inl rfl) _).setCell (fun _ => Or.inr rfl) _).drew

/-- What the walk knows of the chunk's block. -/
theorem ck_cells {w : World} {p : Nat} {a0 a1 a2 a3 a4 : Value} (hb : w.heap[p]? = some (.cells #[a0, a1, a2, a3, a4] 51 (0, 0))) :
    w.cell? ⟨p, 0, none⟩ = some a0 ∧ w.cell? ⟨p, 1, none⟩ = some a1 ∧ w.cell? ⟨p, 2, none⟩ = some a2 ∧ w.cell? ⟨p, 3, none⟩ = some a3 ∧ w.cell? ⟨p, 4, none⟩ = some a4 ∧ ∀ j, w.frozen? ⟨p, j, none⟩ = false :=
  ⟨cell_of_row w p 0 _ _ _ hb, cell_of_row w p 1 _ _ _ hb, cell_of_row w p 2 _ _ _ hb, cell_of_row w p 3 _ _ _ hb, cell_of_row w p 4 _ _ _ hb, fun j => frozen_of_row w p j _ _ hb⟩

theorem ck_set2 {w : World} {p : Nat} {a0 a1 a2 a3 a4 : Value} (hb : w.heap[p]? = some (.cells #[a0, a1, a2, a3, a4] 51 (0, 0))) (u : Value) :
    (w.setCell ⟨p, 2, none⟩ u).heap[p]? = some (.cells #[a0, a1, u, a3, a4] 51 (0, 0)) := by rw [heap_setCell_same w p 2 _ 51 _ hb]; rfl
theorem ck_set3 {w : World} {p : Nat} {a0 a1 a2 a3 a4 : Value} (hb : w.heap[p]? = some (.cells #[a0, a1, a2, a3, a4] 51 (0, 0))) (u : Value) :
    (w.setCell ⟨p, 3, none⟩ u).heap[p]? = some (.cells #[a0, a1, a2, u, a4] 51 (0, 0)) := by rw [heap_setCell_same w p 3 _ 51 _ hb]; rfl
theorem ck_set4 {w : World} {p : Nat} {a0 a1 a2 a3 a4 : Value} (hb : w.heap[p]? = some (.cells #[a0, a1, a2, a3, a4] 51 (0, 0))) (u : Value) :
    (w.setCell ⟨p, 4, none⟩ u).heap[p]? = some (.cells #[a0, a1, a2, a3, u] 51 (0, 0)) := by rw [heap_setCell_same w p 4 _ 51 _ hb]; rfl

/-- Behind the append: the chunk's block, the new row, what has changed. -/
theorem after_append {w w1 : World} {B p g' cap' n : Nat} {a0 a1 a2 a3 a4 lv : Value} {u : Value} {o : Obj} {xs : List Value} {n0 : Nat} {ys : List Value}
    (hb : w.heap[p]? = some (.cells #[a0, a1, a2, a3, a4] 51 (0, 0))) (hlv : w.ownsRow B 34 1 lv n0 ys)
    (hown1 : w1.ownsRow B 34 1 (.slice (some ⟨g', 0, none⟩) n cap') n xs) (hgrow : ((w.setCell ⟨p, 2, none⟩ u).alloc o).grownBy w1 lv.ownBlock) :
    w1.heap[p]? = some (.cells #[a0, a1, u, a3, a4] 51 (0, 0)) ∧ Chg (fun k => k = p ∨ lv.ownBlock = some k) w w1 ∧ g' ≠ p := by
  have h0 := ck_set2 hb u
  have hlt := lt_of_blk hb
  have hap := row_apart hlv hb (by decide)
  have h1 : w1.heap[p]? = some (.cells #[a0, a1, u, a3, a4] 51 (0, 0)) := by
    rw [hgrow.block p (by simp; omega) (fun e => hap e.symm), Below.heap_alloc _ _ _ (by simpa [World.setCell] using hlt)]
    exact h0
  refine ⟨h1, ?_, ?_⟩
  · exact ((((Chg.refl _ w).setCell (fun _ => Or.inl rfl) _).alloc _).grown hgrow (fun k h _ => Or.inr h))
  · intro h
    exact row_apart hown1 h1 (by decide) (by rw [h]; rfl)

theorem new_one (X : World) (H : Nat) (hH : X.heap.size = H) (u : Value) (T : TypeId) : ∀ j v, [u][j]? = some v → (X.alloc (.cells #[u] T)).cell? ((⟨H, 0, none⟩ : Addr).add j) = some v := by
  subst hH
  exact cell_one_new X u T

set_option maxRecDepth 100000 in
set_option maxHeartbeats 400000 in
theorem add_list (B : Nat) (p : Nat) (ow lv : Value) (base : Nat) (offs : List Nat) (o : Nat) (w : World) (a : Option Addr) (cap : Nat) (hlv : lv = .slice a offs.length cap)
    (hb : w.heap[p]? = some (.cells #[ow, .int .i32 (base : Int), .int .i32 (offs.length : Int), lv, .slice none 0 0] 51 (0, 0)))
    (hown : w.ownsRow B 34 1 lv offs.length (u16s offs)) (hn : offs.length < 256) (ho : o < 4096) (hB : B ≤ w.heap.size) :
    Calls Yba.prog 13 #[.pointer (some ⟨p, 0, none⟩), .int .i32 (o : Int)] w fun e w' => e = .returned (.tuple #[]) ∧ ∃ lv',
      w'.heap[p]? = some (.cells #[ow, .int .i32 (base : Int), .int .i32 ((offs ++ [o]).length : Int), lv', .slice none 0 0] 51 (0, 0)) ∧
      w'.ownsRow B 34 1 lv' (offs ++ [o]).length (u16s (offs ++ [o])) ∧ Chg (fun k => k = p ∨ lv.ownBlock = some k) w w' := by
  subst hlv
  obtain ⟨i0, hi, hz0, hz1, hz2⟩ := info_parts Yba.info34
  have hneq := fun (w : World) (a : Option Addr) (n c n' c' : Nat) => run_neq_slice_nil_any (P := Yba.prog) w 49 52 a n c n' c' Yba.underlying49
  have HL : Hid ((offs ++ [o]).length = offs.length + 1) := by show (offs ++ [o]).length = _; simp
  have HU : Hid (u16s (offs ++ [o]) = u16s offs ++ [.int .u16 (o : Int)]) := u16s_snoc offs o
  obtain ⟨hc0, hc1, hc2, hc3, hc4, hfz⟩ := ck_cells hb
  have hap := row_apart hown hb (by decide)
  have HB := show Hid _ from hb
  have HO := show Hid (w.ownsRow B 34 1 (.slice a offs.length cap) offs.length (u16s offs)) from hown
  have hplt := lt_of_blk hb
  clear hown hb
  go_enter Yba.func13, Yba.ntmps13
  go_wp2_with (at_builtin; refine wpList_append_lies _ rfl (.tmp 35) (.tmp 38) 35 rfl B 34 i0 (.int .u16 0) 1 2 Yba.underlying35 hi hz0 hz1 hz2 rfl (by decide) (.slice a offs.length cap) offs.length (u16s offs) rfl ((owns_setCell HO.out hap _).alloc _) ⟨w.heap.size, 0, none⟩ 1 1 [.int .u16 (o : Int)] rfl rfl ?c1 ?c2 (by decide) ?b1 ?b2 ?b3 _ rfl ?go)
  case c1 => exact new_one _ _ (by simp [World.setCell]) _ _
  case c2 => intro u hu; simp at hu; subst hu; rfl
  case b1 => unfold maxLen; omega
  case b2 => omega
  case b3 => simp; omega
  case go =>
    intro g' cap' w1 hown1 hgrow hat hlt
    obtain ⟨hb1, hch, hgp⟩ := after_append HB.out HO.out hown1 hgrow
    obtain ⟨kc0, kc1, kc2, kc3, kc4, kfz⟩ := ck_cells hb1
    have HB1 := show Hid _ from hb1
    have HO1 := show Hid _ from hown1
    have HC := show Hid _ from hch
    clear hb1 hown1 hgrow hat hch hc0 hc1 hc2 hc3 hc4 hfz HO HB
    go_wp2
    go_end0
    refine ⟨rfl, .slice (some ⟨g', 0, none⟩) (offs.length + 1) cap', ?_, ?_, ?_⟩
    · rw [ck_set3 HB1.out, HL.out]; simp
    · rw [HL.out, HU.out]
      exact owns_setCell HO1.out (show Value.ownBlock (.slice (some ⟨g', 0, none⟩) (offs.length + 1) cap') ≠ some p from fun h => hgp (Option.some.inj h)) _
    · exact HC.out.setCell (fun _ => Or.inl rfl) _

theorem made_zero : (madeCells (Value.int .u64 0).cells (64 * 1)).toList = u64s (words []) := by
  have : (Value.int .u64 0).cells = #[Value.int .u64 0] := rfl
  rw [this, toList_madeCells_one]
  rfl

/-- What the turn from a list to a bitmap keeps, round after round. -/
structure TRel (w : World) (B p : Nat) (ow : Value) (base : Nat) (lv : Value) (offs : List Nat) (g cap h : Nat) (k : Nat) (wr : World) : Prop where
  blk : wr.heap[p]? = some (.cells #[ow, .int .i32 (base : Int), .int .i32 (257 : Int), .slice (some ⟨g, 0, none⟩) 257 cap, .slice (some ⟨h, 0, none⟩) 64 64] 51 (0, 0))
  lst : wr.ownsRow B 34 1 (.slice (some ⟨g, 0, none⟩) 257 cap) 257 (u16s offs)
  bts : wr.ownsRow B 52 1 (.slice (some ⟨h, 0, none⟩) 64 64) 64 (u64s (words (offs.take k)))
  chg : Chg (fun k => k = p ∨ lv.ownBlock = some k) w wr
  new : w.heap.size ≤ h

theorem TRel.step {w : World} {B p : Nat} {ow : Value} {base : Nat} {lv : Value} {offs : List Nat} {g cap h k : Nat} {wr : World} (T : TRel w B p ow base lv offs g cap h k wr) (hk : k < offs.length) :
    TRel w B p ow base lv offs g cap h (k + 1) (wr.setCell ⟨h, offs.getD k 0 / 64, none⟩ (.int .u64 (bits .or .u64 ((words (offs.take k))[offs.getD k 0 / 64]?.getD 0) (IntKind.u64.wrap (2 ^ (offs.getD k 0 % 64)))))) := by
  have hhp : h ≠ p := fun e => row_apart T.bts T.blk (by decide) (by rw [e]; rfl)
  have hgh : g ≠ h := fun e => owns_apart T.bts T.lst (by decide) (k := h) rfl (by rw [e]; rfl)
  refine ⟨?_, ?_, ?_, T.chg.setCell (fun hlt => ?_) _, T.new⟩
  · rw [heap_setCell_other _ _ _ _ (show p ≠ h from fun e => hhp e.symm)]; exact T.blk
  · exact owns_setCell T.lst (show Value.ownBlock (.slice (some ⟨g, 0, none⟩) 257 cap) ≠ some h from fun e => hgh (Option.some.inj e)) _
  · have e : offs.take (k + 1) = offs.take k ++ [offs.getD k 0] := by
      rw [List.take_succ_eq_append_getElem hk]; simp [hk]
    rw [e, words_snoc, u64s_setBit]
    exact (T.bts.stored _ _).1
  · have := T.new
    exact absurd hlt (by show ¬ h < _; omega)

theorem turn_start {w w1 w2 : World} {B p g cap base : Nat} {ow lv x3 : Value} {offs : List Nat}
    (hb : w1.heap[p]? = some (.cells #[ow, .int .i32 (base : Int), .int .i32 (257 : Int), x3, .slice none 0 0] 51 (0, 0)))
    (ho : w1.ownsRow B 34 1 (.slice (some ⟨g, 0, none⟩) 257 cap) 257 (u16s offs))
    (hc : Chg (fun k => k = p ∨ lv.ownBlock = some k) w w1)
    (hown2 : w2.ownsRow B 52 1 (.slice (some ⟨w1.heap.size, 0, none⟩) 64 64) 64 (u64s (words [])))
    (hg2 : (w1.setCell ⟨p, 3, none⟩ (.slice (some ⟨g, 0, none⟩) 257 cap)).grownBy w2 none) :
    w2.heap[p]? = some (.cells #[ow, .int .i32 (base : Int), .int .i32 (257 : Int), .slice (some ⟨g, 0, none⟩) 257 cap, .slice none 0 0] 51 (0, 0)) ∧
    TRel w B p ow base lv offs g cap w1.heap.size 0 (w2.setCell ⟨p, 4, none⟩ (.slice (some ⟨w1.heap.size, 0, none⟩) 64 64)) := by
  have hgp : g ≠ p := fun h => row_apart ho hb (by decide) (by rw [h]; rfl)
  have hlt := lt_of_blk hb
  have hb2 : w2.heap[p]? = some (.cells #[ow, .int .i32 (base : Int), .int .i32 (257 : Int), .slice (some ⟨g, 0, none⟩) 257 cap, .slice none 0 0] 51 (0, 0)) := by
    rw [hg2.block p (by simpa [World.setCell] using hlt) (by simp)]
    exact ck_set3 hb _
  refine ⟨hb2, ck_set4 hb2 _, ?_, ?_, ?_, hc.size⟩
  · refine owns_setCell ?_ (show Value.ownBlock (.slice (some ⟨g, 0, none⟩) 257 cap) ≠ some p from fun h => hgp (Option.some.inj h)) _
    exact ((Chg.refl (fun _ => False) _).grown hg2 (fun k h _ => by simp at h)).owns (owns_setCell ho (show Value.ownBlock (.slice (some ⟨g, 0, none⟩) 257 cap) ≠ some p from fun h => hgp (Option.some.inj h)) _) (fun _ _ h => h)
  · exact owns_setCell hown2 (show Value.ownBlock (.slice (some ⟨w1.heap.size, 0, none⟩) 64 64) ≠ some p from fun h => by have : w1.heap.size = p := Option.some.inj h; omega) _
  · exact ((hc.setCell (fun _ => Or.inl rfl) _).grown hg2 (fun k h _ => by simp at h)).setCell (fun _ => Or.inl rfl) _

set_option maxRecDepth 100000 in
set_option maxHeartbeats 1000000 in
theorem add_turn (B : Nat) (p : Nat) (ow lv : Value) (base : Nat) (offs : List Nat) (o : Nat) (w : World) (a : Option Addr) (cap : Nat) (hlv : lv = .slice a 256 cap)
    (hb : w.heap[p]? = some (.cells #[ow, .int .i32 (base : Int), .int .i32 (256 : Int), lv, .slice none 0 0] 51 (0, 0)))
    (hown : w.ownsRow B 34 1 lv 256 (u16s offs)) (hn : offs.length = 256) (hoffs : ∀ x ∈ offs, x < 4096) (ho : o < 4096) (hB : B ≤ w.heap.size) :
    Calls Yba.prog 13 #[.pointer (some ⟨p, 0, none⟩), .int .i32 (o : Int)] w fun e w' => e = .returned (.tuple #[]) ∧ ∃ bv',
      w'.heap[p]? = some (.cells #[ow, .int .i32 (base : Int), .int .i32 (257 : Int), .slice none 0 0, bv'] 51 (0, 0)) ∧
      w'.ownsRow B 52 1 bv' 64 (u64s (words (offs ++ [o]))) ∧ Chg (fun k => k = p ∨ lv.ownBlock = some k) w w' := by
  subst hlv
  obtain ⟨i0, hi, hz0, hz1, hz2⟩ := info_parts Yba.info34
  obtain ⟨i1, hi1, hy0, hy1, hy2⟩ := info_parts Yba.info52
  have hneq := fun (w : World) (a : Option Addr) (n c n' c' : Nat) => run_neq_slice_nil_any (P := Yba.prog) w 49 52 a n c n' c' Yba.underlying49
  have HU : Hid (u16s (offs ++ [o]) = u16s offs ++ [.int .u16 (o : Int)]) := u16s_snoc offs o
  have hall : Hid (∀ x ∈ offs ++ [o], x < 4096) := fun x hx => by
    rcases List.mem_append.1 hx with h | h
    · exact hoffs x h
    · have : x = o := by simpa using h
      omega
  have HLN : Hid ((offs ++ [o]).length = 257) := by show (offs ++ [o]).length = 257; simp [hn]
  obtain ⟨hc0, hc1, hc2, hc3, hc4, hfz⟩ := ck_cells hb
  have hap := row_apart hown hb (by decide)
  have HB := show Hid _ from hb
  have HO := show Hid (w.ownsRow B 34 1 (.slice a 256 cap) 256 (u16s offs)) from hown
  have hplt := lt_of_blk hb
  clear hown hb hn hoffs
  go_enter Yba.func13, Yba.ntmps13
  go_wp2_with (at_builtin; refine wpList_append_lies _ rfl (.tmp 35) (.tmp 38) 35 rfl B 34 i0 (.int .u16 0) 1 2 Yba.underlying35 hi hz0 hz1 hz2 rfl (by decide) (.slice a 256 cap) 256 (u16s offs) rfl ((owns_setCell HO.out hap _).alloc _) ⟨w.heap.size, 0, none⟩ 1 1 [.int .u16 (o : Int)] rfl rfl ?c1 ?c2 (by decide) ?b1 ?b2 ?b3 _ rfl ?go)
  case c1 => exact new_one _ _ (by simp [World.setCell]) _ _
  case c2 => intro u hu; simp at hu; subst hu; rfl
  case b1 => unfold maxLen; omega
  case b2 => omega
  case b3 => simp; omega
  case go =>
    intro g' cap' w1 hown1 hgrow hat hlt
    obtain ⟨hb1, hch, hgp⟩ := after_append HB.out HO.out hown1 hgrow
    obtain ⟨kc0, kc1, kc2, kc3, kc4, kfz⟩ := ck_cells hb1
    have HB1 := show Hid _ from hb1
    have HO1 := show Hid (w1.ownsRow B 34 1 (.slice (some ⟨g', 0, none⟩) 257 cap') 257 (u16s offs ++ [.int .u16 (o : Int)])) from hown1
    have HC := show Hid _ from hch
    have hsz1 : B ≤ w1.heap.size := by have := hch.size; omega
    clear hb1 hown1 hgrow hat hch hc0 hc1 hc2 hc3 hc4 hfz HO HB
    go_wp2_with (at_make; refine wpList_make_full _ rfl _ _ 49 rfl B 52 i1 (.int .u64 0) 1 Yba.underlying49 hi1 hy0 hy1 .i64 .i64 64 64 64 rfl rfl rfl rfl ?m1 ?m2 ?m3 ?m4)
    case m1 => rw [hy2]; omega
    case m2 => unfold maxLen; omega
    case m3 => simp [World.setCell]; omega
    case m4 =>
      intro w2 hown2 hg2
      have hown3 : w2.ownsRow B 52 1 (.slice (some ⟨w1.heap.size, 0, none⟩) 64 64) 64 (u64s (words [])) := by
        rw [← made_zero]
        exact hown2
      obtain ⟨hb2, T0⟩ := turn_start (offs := offs ++ [o]) HB1.out (by rw [HU.out]; exact HO1.out) HC.out hown3 hg2
      obtain ⟨mc0, mc1, mc2, mc3, mc4, mfz⟩ := ck_cells hb2
      have hsz2 : w1.heap.size < w2.heap.size := (owns_lt hown3 w1.heap.size rfl).2
      have hp2 : p < w2.heap.size := lt_of_blk hb2
      clear hown2 hown3 hg2 hb2 HB1 HO1 HC kc0 kc1 kc2 kc3 kc4 kfz HU
      obtain ⟨os, hos⟩ : ∃ os, os = offs ++ [o] := ⟨_, rfl⟩
      rw [← hos] at T0 hall HLN
      have HOS := show Hid _ from hos
      clear hos
      go_wp2
      go_loopw [57] (fun i wr => ∃ k : Nat, k ≤ 257 ∧ i = .int .i64 k ∧ TRel w B p ow base (.slice a 256 cap) os g' cap' w1.heap.size k wr) (fun i _ => 257 - (intOf i).toNat)
      case atStart => exact ⟨0, Nat.zero_le _, rfl, T0⟩
      case round =>
        obtain ⟨k, hk, rfl, T⟩ := hrel
        clear T0 mc0 mc1 mc2 mc3 mc4 mfz
        obtain ⟨nc0, nc1, nc2, nc3, nc4, nfz⟩ := ck_cells T.blk
        by_cases hlt2 : k < 257
        · have T2 := T.step (by rw [HLN.out]; exact hlt2)
          have hx : os.getD k 0 < 4096 := by
            have hkl : k < os.length := by rw [HLN.out]; exact hlt2
            have : os.getD k 0 ∈ os := by simp [hkl]
            exact hall.out _ this
          have hck : wr.cell? ⟨g', k, none⟩ = some (.int .u16 ((os.getD k 0 : Nat) : Int)) := by
            rw [T.lst.cellAt k (by omega)]; exact u16s_at _ _ (by rw [HLN.out]; exact hlt2)
          obtain ⟨x, hxe⟩ : ∃ x, x = os.getD k 0 := ⟨_, rfl⟩
          rw [← hxe] at T2 hx hck
          have hand := u16_and63 x (by omega)
          have hq : wr.cell? ⟨w1.heap.size, x / 64, none⟩ = some (.int .u64 ((words (os.take k)).getD (x / 64) 0)) := by
            rw [T.bts.cellAt (x / 64) (by omega)]; exact u64s_at _ _ (by rw [words_length]; omega)
          have hfq : ∀ j, wr.frozen? ⟨w1.heap.size, j, none⟩ = false := fun j => T.bts.frozenAt j
          obtain ⟨ws, hws⟩ : ∃ ws, ws = words (os.take k) := ⟨_, rfl⟩
          rw [← hws] at T2 hq
          clear hxe hws T
          go_wp2
          go_roundw
          case rel => exact ⟨k + 1, by omega, by go_num, T2⟩
          case measure => simp [intOf]; omega
        · obtain rfl : k = 257 := by omega
          have HT := show Hid _ from T
          clear T
          go_wp2
          go_end0
          have T := HT.out
          have hhp : w1.heap.size ≠ p := fun e => row_apart T.bts T.blk (by decide) (by rw [e]; rfl)
          refine ⟨rfl, .slice (some ⟨w1.heap.size, 0, none⟩) 64 64, ck_set3 T.blk _, ?_, T.chg.setCell (fun _ => Or.inl rfl) _⟩
          have hb3 := T.bts
          rw [List.take_of_length_le (by rw [HLN.out]; omega), HOS.out] at hb3
          exact owns_setCell hb3 (show Value.ownBlock (.slice (some ⟨w1.heap.size, 0, none⟩) 64 64) ≠ some p from fun e => hhp (Option.some.inj e)) _

/-- THE CONTRACT OF add. -/
theorem add_any (B : Nat) (c : Ck) (lv bv : Value) (o : Nat) (w : World) (h : CkAt w B c lv bv) (hoffs : ∀ x ∈ c.offs, x < 4096) (hn : c.offs.length ≤ 1000000) (ho : o < 4096) (hB : B ≤ w.heap.size) :
    Calls Yba.prog 13 #[.pointer (some ⟨c.p, 0, none⟩), .int .i32 (o : Int)] w fun e w' => e = .returned (.tuple #[]) ∧ ∃ lv' bv',
      CkAt w' B { c with offs := c.offs ++ [o] } lv' bv' ∧ Chg (fun k => k = c.p ∨ lv.ownBlock = some k ∨ bv.ownBlock = some k) w w' := by
  obtain ⟨p, ow, base, offs⟩ := c
  obtain ⟨hb, hrow⟩ := h
  simp only at hb hrow hoffs hn ⊢
  rcases hrow with ⟨h1, rfl, hown⟩ | ⟨h1, rfl, hown⟩
  · obtain ⟨a, cap, hlv⟩ : ∃ a cap, lv = .slice a offs.length cap := by
      rcases owns_form hown with ⟨h, h0, _⟩ | ⟨g, cap, h, _⟩
      · exact ⟨none, 0, by rw [h, h0]⟩
      · exact ⟨_, _, h⟩
    by_cases h2 : offs.length < 256
    · refine (add_list B p ow lv base offs o w a cap hlv hb hown h2 ho hB).mono fun e w' hh => ?_
      obtain ⟨he, lv', k1, k2, k3⟩ := hh
      refine ⟨he, lv', .slice none 0 0, ⟨k1, Or.inl ⟨by simp; omega, rfl, k2⟩⟩, k3.mono (fun k _ hk => ?_)⟩
      rcases hk with h | h
      · exact Or.inl h
      · exact Or.inr (Or.inl h)
    · have h3 : offs.length = 256 := by omega
      rw [h3] at hb hown hlv
      refine (add_turn B p ow lv base offs o w a cap hlv hb hown h3 hoffs ho hB).mono fun e w' hh => ?_
      obtain ⟨he, bv', k1, k2, k3⟩ := hh
      have hl : (offs ++ [o]).length = 257 := by simp [h3]
      refine ⟨he, .slice none 0 0, bv', ⟨by simp only [hl]; exact k1, Or.inr ⟨by simp only [hl]; omega, rfl, k2⟩⟩, k3.mono (fun k _ hk => ?_)⟩
      rcases hk with h | h
      · exact Or.inl h
      · exact Or.inr (Or.inl h)
  · obtain ⟨g, cap, rfl⟩ : ∃ g cap, bv = .slice (some ⟨g, 0, none⟩) 64 cap := by
      rcases owns_form hown with ⟨_, h0, _⟩ | ⟨g, cap, h, _⟩
      · omega
      · exact ⟨g, cap, h⟩
    refine (add_bits B p ow base offs g cap o w hb hown hn ho).mono fun e w' hh => ?_
    obtain ⟨he, k1, k2, k3⟩ := hh
    refine ⟨he, _, _, ⟨k1, Or.inr ⟨by simp; omega, rfl, k2⟩⟩, k3.mono (fun k _ hk => ?_)⟩
    rcases hk with h | h
    · exact Or.inl h
    · exact Or.inr (Or.inr (by rw [h]; rfl))
end Go.Proofs.Ybulkbtwy
