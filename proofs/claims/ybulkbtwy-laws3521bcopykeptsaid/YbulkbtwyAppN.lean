import Derived.Test.YbulkbtwyApp
set_option linter.unusedVariables false
namespace Go.Proofs.Ybulkbtwy
open Go.RowKit

set_option maxRecDepth 100000 in
set_option maxHeartbeats 4000000 in
theorem append_newN (kb B N : Nat) (n d b o gs0 lb : Nat) (xs ys : List Value) (w : World) (ca : Option Addr) (cc sc : Nat)
    (hblk : w.heap[kb]? = some (.cells #[.slice ca N cc, .slice (some ⟨gs0, 0, none⟩) N sc, .int .i64 (n : Int)] 39 (0, 0)))
    (hch : w.ownsRow B 47 1 (.slice ca N cc) N xs) (hbs : w.ownsRow B 21 1 (.slice (some ⟨gs0, 0, none⟩) N sc) N ys) (hN : 1 ≤ N) (hNm : N ≤ 1000000)
    (hlast : w.cell? ⟨gs0, N - 1, none⟩ = some (.int .i32 (lb : Int))) (hlb : ((lb : Int) == (b : Int)) = false)
    (hclr : bits .andNot .i32 (d : Int) 4095 = (b : Int)) (hsub : (d : Int) - (b : Int) = (o : Int)) (hbd : b ≤ d) (ho : o < 4096) (hd : d < 1073741824) (hn : n ≤ 1000000) (hB : B ≤ w.heap.size) :
    Calls Yba.prog 9 #[.pointer (some ⟨kb, 0, none⟩), .int .i32 (d : Int)] w fun e w' => e = .returned (.tuple #[]) ∧ NewPost w w' kb B n b o N (.slice ca N cc) (.slice (some ⟨gs0, 0, none⟩) N sc) xs ys := by
  obtain ⟨i47, hi47, hz47, hs47, hy47⟩ := info_parts Yba.info47
  obtain ⟨i21, hi21, hz21, hs21, hy21⟩ := info_parts Yba.info21'
  obtain ⟨hc0, hc1, hc2, hfz⟩ := set_cells hblk
  have HB := show Hid _ from hblk
  have HCH := show Hid (w.ownsRow B 47 1 (.slice ca N cc) N xs) from hch
  have HBS := show Hid (w.ownsRow B 21 1 (.slice (some ⟨gs0, 0, none⟩) N sc) N ys) from hbs
  have hklt := lt_of_blk hblk
  clear hblk hch hbs
  go_enter Yba.func9, Yba.ntmps9
  go_wp2_with fail
  refine (add_any w.heap.size ⟨w.heap.size, .pointer (some ⟨kb, 0, none⟩), b, []⟩ (.slice none 0 0) (.slice none 0 0) o _ (fresh_chunk w kb b) (by simp) (by simp) ho (by simp)).mono ?_
  rintro e w1 ⟨rfl, lv, bv, hck1, hch1⟩
  have hcg : Chg (fun _ => False) w w1 := ⟨hch1.os, hch1.tape, hch1.output, by have := hch1.size; simp at this; omega, fun k hk _ => (hch1.block k (by simp; omega) (fun h => by rcases h with h | h | h; exact absurd h (Nat.ne_of_lt hk); cases h; cases h)).trans (Below.heap_alloc _ _ _ hk)⟩
  have hsz1 : w.heap.size < w1.heap.size := by have := hch1.size; simp at this; omega
  have hb1 : w1.heap[kb]? = some (.cells #[.slice ca N cc, .slice (some ⟨gs0, 0, none⟩) N sc, .int .i64 (n : Int)] 39 (0, 0)) := (hcg.block kb hklt id).trans HB.out
  have HCH1 : Hid (w1.ownsRow B 47 1 (.slice ca N cc) N xs) := hcg.owns HCH.out (fun _ _ h => h)
  have HBS1 : Hid (w1.ownsRow B 21 1 (.slice (some ⟨gs0, 0, none⟩) N sc) N ys) := hcg.owns HBS.out (fun _ _ h => h)
  obtain ⟨kc0, kc1, kc2, kfz⟩ := set_cells hb1
  have HCK1 := show Hid (CkAt w1 w.heap.size ⟨w.heap.size, .pointer (some ⟨kb, 0, none⟩), b, [o]⟩ lv bv) from hck1
  have HCG1 := show Hid _ from hcg
  have HB1 := show Hid _ from hb1
  clear hck1 hch1 hb1 hcg hc0 hc1 hc2 hfz HCH HBS HB
  go_wp2_with fail
  have HU : Hid (¬ two (.slice ca N cc) (.slice (some ⟨gs0, 0, none⟩) N sc) kb) := fun h => h.elim (row_apart HCH1.out HB1.out (by decide)) (row_apart HBS1.out HB1.out (by decide))
  have H0 : Chg (two (.slice ca N cc) (.slice (some ⟨gs0, 0, none⟩) N sc)) w1 w1 := Chg.refl _ _
  have HF : Chg (fun _ => False) w1 w1 := Chg.refl _ _
  have HS : Hid (∀ X, Chg (two (.slice ca N cc) (.slice (some ⟨gs0, 0, none⟩) N sc)) w1 X → X.cell? ⟨kb, 0, none⟩ = some (.slice ca N cc) ∧ X.cell? ⟨kb, 1, none⟩ = some (.slice (some ⟨gs0, 0, none⟩) N sc)) := fun X hX =>
    ⟨(hX.cell (p := ⟨kb, 0, none⟩) (lt_of_blk HB1.out) HU.out).trans kc0, (hX.cell (p := ⟨kb, 1, none⟩) (lt_of_blk HB1.out) HU.out).trans kc1⟩
  refine wp_region_J (late := fun j => !(j == 7 || j == 14 || j == 8 || j == 15 || j == 5 || j == 12)) (S := fun w' => w'.cell? ⟨kb, 0, none⟩ = some (.slice ca N cc) ∧ w'.cell? ⟨kb, 1, none⟩ = some (.slice (some ⟨gs0, 0, none⟩) N sc)) (by kernel_rfl) ?_
  refine takeP 0 (some 44) (.move (.tmp 0)) (.pointer (some ⟨kb, 0, none⟩)) (by kernel_rfl) (by kernel_rfl) (by kernel_rfl) (by kernel_rfl) (by kernel_rfl) (fun _ _ _ h => h) ?_ ?_
  · intro o ho x
    unfold execOp
    rw [ho]
    go_simp
  simp only [Act.put, List.setIfInBounds_toArray, List.set_cons_zero, List.set_cons_succ]
  refine takeP 1 (some 45) (.move (.tmp 0)) (.pointer (some ⟨kb, 0, none⟩)) (by kernel_rfl) (by kernel_rfl) (by kernel_rfl) (by kernel_rfl) (by kernel_rfl) (fun _ _ _ h => h) ?_ ?_
  · intro o ho x
    unfold execOp
    rw [ho]
    go_simp
  simp only [Act.put, List.setIfInBounds_toArray, List.set_cons_zero, List.set_cons_succ]
  refine takeP 2 (some 46) (.move (.tmp 0)) (.pointer (some ⟨kb, 0, none⟩)) (by kernel_rfl) (by kernel_rfl) (by kernel_rfl) (by kernel_rfl) (by kernel_rfl) (fun _ _ _ h => h) ?_ ?_
  · intro o ho x
    unfold execOp
    rw [ho]
    go_simp
  simp only [Act.put, List.setIfInBounds_toArray, List.set_cons_zero, List.set_cons_succ]
  refine takeP 3 (some 47) (.nilCheck (.tmp 46)) (.pointer (some ⟨kb, 0, none⟩)) (by kernel_rfl) (by kernel_rfl) (by kernel_rfl) (by kernel_rfl) (by kernel_rfl) (fun _ _ _ h => h) ?_ ?_
  · intro o ho x
    unfold execOp
    rw [ho]
    go_simp
  simp only [Act.put, List.setIfInBounds_toArray, List.set_cons_zero, List.set_cons_succ]
  refine takeP 4 (some 48) (.fieldAddr 39 (.tmp 47) 0) (.pointer (some ⟨kb, 0, none⟩)) (by kernel_rfl) (by kernel_rfl) (by kernel_rfl) (by kernel_rfl) (by kernel_rfl) (fun _ _ _ h => h) ?_ ?_
  · intro o ho x
    unfold execOp
    rw [ho]
    go_simp
  simp only [Act.put, List.setIfInBounds_toArray, List.set_cons_zero, List.set_cons_succ]
  refine takeP 6 (some 50) (.move (.tmp 6)) (.pointer (some ⟨w.heap.size, 0, none⟩)) (by kernel_rfl) (by kernel_rfl) (by kernel_rfl) (by kernel_rfl) (by kernel_rfl) (fun _ _ _ h => h) ?_ ?_
  · intro o ho x
    unfold execOp
    rw [ho]
    go_simp
  simp only [Act.put, List.setIfInBounds_toArray, List.set_cons_zero, List.set_cons_succ]
  refine takeP 9 (some 53) (.move (.tmp 0)) (.pointer (some ⟨kb, 0, none⟩)) (by kernel_rfl) (by kernel_rfl) (by kernel_rfl) (by kernel_rfl) (by kernel_rfl) (fun _ _ _ h => h) ?_ ?_
  · intro o ho x
    unfold execOp
    rw [ho]
    go_simp
  simp only [Act.put, List.setIfInBounds_toArray, List.set_cons_zero, List.set_cons_succ]
  refine takeP 10 (some 54) (.nilCheck (.tmp 53)) (.pointer (some ⟨kb, 0, none⟩)) (by kernel_rfl) (by kernel_rfl) (by kernel_rfl) (by kernel_rfl) (by kernel_rfl) (fun _ _ _ h => h) ?_ ?_
  · intro o ho x
    unfold execOp
    rw [ho]
    go_simp
  simp only [Act.put, List.setIfInBounds_toArray, List.set_cons_zero, List.set_cons_succ]
  refine takeP 11 (some 55) (.fieldAddr 39 (.tmp 54) 1) (.pointer (some ⟨kb, 1, none⟩)) (by kernel_rfl) (by kernel_rfl) (by kernel_rfl) (by kernel_rfl) (by kernel_rfl) (fun _ _ _ h => h) ?_ ?_
  · intro o ho x
    unfold execOp
    rw [ho]
    go_simp
  simp only [Act.put, List.setIfInBounds_toArray, List.set_cons_zero, List.set_cons_succ]
  refine takeP 13 (some 57) (.move (.tmp 4)) (.int .i32 (b : Int)) (by kernel_rfl) (by kernel_rfl) (by kernel_rfl) (by kernel_rfl) (by kernel_rfl) (fun _ _ _ h => h) ?_ ?_
  · intro o ho x
    unfold execOp
    rw [ho]
    go_simp
  simp only [Act.put, List.setIfInBounds_toArray, List.set_cons_zero, List.set_cons_succ]
  refine takeJ 5 (some 49) (.load 37 (.tmp 48)) (.slice ca N cc) (by kernel_rfl) (by kernel_rfl) (by kernel_rfl) (by kernel_rfl) (by kernel_rfl) (fun _ _ _ h => h) (HS.out _ H0.drew) ?_ ?_
  · intro o ho x hx
    obtain ⟨hx1, hx2⟩ := hx
    unfold execOp
    rw [ho]
    go_simp
  simp only [Act.put, List.setIfInBounds_toArray, List.set_cons_zero, List.set_cons_succ]
  refine takeJ 12 (some 56) (.load 22 (.tmp 55)) (.slice (some ⟨gs0, 0, none⟩) N sc) (by kernel_rfl) (by kernel_rfl) (by kernel_rfl) (by kernel_rfl) (by kernel_rfl) (fun _ _ _ h => h) (HS.out _ H0.drew) ?_ ?_
  · intro o ho x hx
    obtain ⟨hx1, hx2⟩ := hx
    unfold execOp
    rw [ho]
    go_simp
  simp only [Act.put, List.setIfInBounds_toArray, List.set_cons_zero, List.set_cons_succ]
  refine wpAnyJ_ready (rs := [7, 14]) (by kernel_rfl) (by simp) ?_
  refine stepJ 7 (some 51) (.buildSlice 37 1 #[(0, .tmp 50)]) (by kernel_rfl) (fun o ho hd K hK => ?_) (stepJ 14 (some 58) (.buildSlice 22 1 #[(0, .tmp 57)]) (by kernel_rfl) (fun o ho hd K hK => ?_) AllReadyJ.nil)
  · unfold Oper.wp execOp
    rw [ho]
    go_simp
    refine hK.out _ _ (Or.inr (HS.out _ (H0.alloc (.cells #[.pointer (some ⟨w.heap.size, 0, none⟩)] 47)).drew)) ?_
    clear hK K ho hd o
    refine wpAnyJ_ready (rs := [8, 14]) (by kernel_rfl) (by simp) ?_
    refine stepJ 8 (some 52) (.call { callee := .builtin .append, args := #[.tmp 49, .tmp 51], argTypes := #[37, 37] }) (by kernel_rfl) (fun o ho hd K hK => ?_) (stepJ 14 (some 58) (.buildSlice 22 1 #[(0, .tmp 57)]) (by kernel_rfl) (fun o ho hd K hK => ?_) AllReadyJ.nil)
    · refine wp_append_lies _ (.tmp 49) (.tmp 51) 37 ho B 47 i47 (.pointer none) 1 8 Yba.underlying37 hi47 hz47 hs47 hy47 rfl (by decide) (.slice ca N cc) N xs rfl (HCH1.out.alloc _) ⟨w1.heap.size, 0, none⟩ 1 1 [.pointer (some ⟨w.heap.size, 0, none⟩)] rfl rfl (new_one _ _ rfl _ _) (one_ptr _) (by decide) (by unfold maxLen; omega) (by omega) (by simp; omega) _ rfl ?_
      intro g1 c1 w2 hown2 hgrow2 hat2 hlt2
      rw [hd]
      have H2 : Hid (Chg (two (.slice ca N cc) (.slice (some ⟨gs0, 0, none⟩) N sc)) w1 w2) := ((H0.alloc (.cells #[.pointer (some ⟨w.heap.size, 0, none⟩)] 47)).drew).grown hgrow2 (fun k h _ => Or.inl h)
      have HO2 : Hid (w2.ownsRow B 47 1 (.slice (some ⟨g1, 0, none⟩) (N + 1) c1) (N + 1) (xs ++ [.pointer (some ⟨w.heap.size, 0, none⟩)])) := hown2
      have HG2 := show Hid _ from hgrow2
      have HA2 := show Hid _ from hat2
      clear hown2 hgrow2 hat2
      refine hK.out _ _ (Or.inr (HS.out _ H2.out)) ?_
      clear hK K ho hd o
      simp only [Act.put, List.setIfInBounds_toArray, List.set_cons_zero, List.set_cons_succ]
      refine wpAnyJ_ready (rs := [14]) (by kernel_rfl) (by simp) ?_
      refine stepJ 14 (some 58) (.buildSlice 22 1 #[(0, .tmp 57)]) (by kernel_rfl) (fun o ho hd K hK => ?_) AllReadyJ.nil
      unfold Oper.wp execOp
      rw [ho]
      go_simp
      refine hK.out _ _ (Or.inr (HS.out _ (H2.out.alloc (.cells #[.int .i32 (b : Int)] 21)))) ?_
      clear hK K ho hd o
      refine wpAnyJ_ready (rs := [15]) (by kernel_rfl) (by simp) ?_
      refine stepJ 15 (some 59) (.call { callee := .builtin .append, args := #[.tmp 56, .tmp 58], argTypes := #[22, 22] }) (by kernel_rfl) (fun o ho hd K hK => ?_) AllReadyJ.nil
      have hs2 : w1.heap.size ≤ w2.heap.size := H2.out.size
      refine wp_append_lies _ (.tmp 56) (.tmp 58) 22 ho B 21 i21 (.int .i32 0) 1 4 Yba.underlying22 hi21 hz21 hs21 hy21 rfl (by decide) (.slice (some ⟨gs0, 0, none⟩) N sc) N ys rfl ((bss_kept HBS1.out HCH1.out HG2.out ((HF.alloc _).drew)).alloc _) ⟨w2.heap.size, 0, none⟩ 1 1 [.int .i32 (b : Int)] rfl rfl (new_one _ _ rfl _ _) (one_int _) (by decide) (by unfold maxLen; omega) (by omega) (by simp; omega) _ rfl ?_
      intro g2 c2 w3 hown3 hgrow3 hat3 hlt3
      rw [hd]
      have H3 : Hid (Chg (two (.slice ca N cc) (.slice (some ⟨gs0, 0, none⟩) N sc)) w1 w3) := (H2.out.alloc (.cells #[.int .i32 (b : Int)] 21)).grown hgrow3 (fun k h _ => Or.inr h)
      have HO3 : Hid (w3.ownsRow B 21 1 (.slice (some ⟨g2, 0, none⟩) (N + 1) c2) (N + 1) (ys ++ [.int .i32 (b : Int)])) := hown3
      have HG3 := show Hid _ from hgrow3
      have HA3 := show Hid _ from hat3
      clear hown3 hgrow3 hat3
      refine hK.out _ _ (Or.inr (HS.out _ H3.out)) ?_
      clear hK K ho hd o
      simp only [Act.put, List.setIfInBounds_toArray, List.set_cons_zero, List.set_cons_succ]
      refine takeP 16 (some 60) (.nilCheck (.tmp 44)) (.pointer (some ⟨kb, 0, none⟩)) (by kernel_rfl) (by kernel_rfl) (by kernel_rfl) (by kernel_rfl) (by kernel_rfl) (fun _ _ _ h => h) ?_ ?_
      · intro o ho x
        unfold execOp
        rw [ho]
        go_simp
      simp only [Act.put, List.setIfInBounds_toArray, List.set_cons_zero, List.set_cons_succ]
      refine takeP 17 (some 61) (.fieldAddr 39 (.tmp 60) 0) (.pointer (some ⟨kb, 0, none⟩)) (by kernel_rfl) (by kernel_rfl) (by kernel_rfl) (by kernel_rfl) (by kernel_rfl) (fun _ _ _ h => h) ?_ ?_
      · intro o ho x
        unfold execOp
        rw [ho]
        go_simp
      simp only [Act.put, List.setIfInBounds_toArray, List.set_cons_zero, List.set_cons_succ]
      have hw3 : w3.heap[kb]? = some (.cells #[.slice ca N cc, .slice (some ⟨gs0, 0, none⟩) N sc, .int .i64 (n : Int)] 39 (0, 0)) := (H3.out.block kb (lt_of_blk HB1.out) HU.out).trans HB1.out
      obtain ⟨mc0, mc1, mc2, mfz⟩ := set_cells hw3
      have hw3l := lt_of_blk hw3
      clear hw3
      refine wpAnyJ_ready (rs := [18]) (by kernel_rfl) (by simp) ?_
      refine stepJ 18 (none) (.store 37 (.tmp 61) (.tmp 52)) (by kernel_rfl) (fun o ho hd K hK => ?_) AllReadyJ.nil
      unfold Oper.wp execOp
      rw [ho]
      go_simp
      refine hK.out _ _ (Or.inl (by kernel_rfl)) ?_
      clear hK K ho hd o
      refine takeP 19 (some 62) (.nilCheck (.tmp 45)) (.pointer (some ⟨kb, 0, none⟩)) (by kernel_rfl) (by kernel_rfl) (by kernel_rfl) (by kernel_rfl) (by kernel_rfl) (fun _ _ _ h => h) ?_ ?_
      · intro o ho x
        unfold execOp
        rw [ho]
        go_simp
      simp only [Act.put, List.setIfInBounds_toArray, List.set_cons_zero, List.set_cons_succ]
      refine takeP 20 (some 63) (.fieldAddr 39 (.tmp 62) 1) (.pointer (some ⟨kb, 1, none⟩)) (by kernel_rfl) (by kernel_rfl) (by kernel_rfl) (by kernel_rfl) (by kernel_rfl) (fun _ _ _ h => h) ?_ ?_
      · intro o ho x
        unfold execOp
        rw [ho]
        go_simp
      simp only [Act.put, List.setIfInBounds_toArray, List.set_cons_zero, List.set_cons_succ]
      refine wpAnyJ_ready (rs := [21]) (by kernel_rfl) (by simp) ?_
      refine stepJ 21 (none) (.store 22 (.tmp 63) (.tmp 59)) (by kernel_rfl) (fun o ho hd K hK => ?_) AllReadyJ.nil
      unfold Oper.wp execOp
      rw [ho]
      go_simp
      refine hK.out _ _ (Or.inl (by kernel_rfl)) ?_
      clear hK K ho hd o
      refine wpAnyJ_done (by kernel_rfl) ?_ _
      go_wp2
      go_end0
      exact ⟨rfl, new_end hklt HCG1.out HCK1.out HB1.out HCH1.out HBS1.out H3.out (own47_kept HG3.out (HO2.out.alloc _) ((bss_kept HBS1.out HCH1.out HG2.out ((HF.alloc _).drew)).alloc _)) HO3.out (HA2.out.imp id (fun h => by rw [h]; first | omega | (simp; done) | (simp; omega))) (HA3.out.imp id (fun h => by rw [h]; first | omega | (simp; done) | (simp; omega)))⟩
    · unfold Oper.wp execOp
      rw [ho]
      go_simp
      refine hK.out _ _ (Or.inr (HS.out _ ((H0.alloc (.cells #[.pointer (some ⟨w.heap.size, 0, none⟩)] 47)).alloc (.cells #[.int .i32 (b : Int)] 21)).drew)) ?_
      clear hK K ho hd o
      refine wpAnyJ_ready (rs := [8]) (by kernel_rfl) (by simp) ?_
      refine stepJ 8 (some 52) (.call { callee := .builtin .append, args := #[.tmp 49, .tmp 51], argTypes := #[37, 37] }) (by kernel_rfl) (fun o ho hd K hK => ?_) AllReadyJ.nil
      refine wp_append_lies _ (.tmp 49) (.tmp 51) 37 ho B 47 i47 (.pointer none) 1 8 Yba.underlying37 hi47 hz47 hs47 hy47 rfl (by decide) (.slice ca N cc) N xs rfl ((HCH1.out.alloc _).alloc _) ⟨w1.heap.size, 0, none⟩ 1 1 [.pointer (some ⟨w.heap.size, 0, none⟩)] rfl rfl (new_below w1 (.cells #[.int .i32 (b : Int)] 21) _ _) (one_ptr _) (by decide) (by unfold maxLen; omega) (by omega) (by simp; omega) _ rfl ?_
      intro g1 c1 w2 hown2 hgrow2 hat2 hlt2
      rw [hd]
      have H2 : Hid (Chg (two (.slice ca N cc) (.slice (some ⟨gs0, 0, none⟩) N sc)) w1 w2) := (((H0.alloc (.cells #[.pointer (some ⟨w.heap.size, 0, none⟩)] 47)).alloc (.cells #[.int .i32 (b : Int)] 21)).drew).grown hgrow2 (fun k h _ => Or.inl h)
      have HO2 : Hid (w2.ownsRow B 47 1 (.slice (some ⟨g1, 0, none⟩) (N + 1) c1) (N + 1) (xs ++ [.pointer (some ⟨w.heap.size, 0, none⟩)])) := hown2
      have HG2 := show Hid _ from hgrow2
      have HA2 := show Hid _ from hat2
      clear hown2 hgrow2 hat2
      refine hK.out _ _ (Or.inr (HS.out _ H2.out)) ?_
      clear hK K ho hd o
      simp only [Act.put, List.setIfInBounds_toArray, List.set_cons_zero, List.set_cons_succ]
      refine wpAnyJ_ready (rs := [15]) (by kernel_rfl) (by simp) ?_
      refine stepJ 15 (some 59) (.call { callee := .builtin .append, args := #[.tmp 56, .tmp 58], argTypes := #[22, 22] }) (by kernel_rfl) (fun o ho hd K hK => ?_) AllReadyJ.nil
      have hs2 : w1.heap.size ≤ w2.heap.size := H2.out.size
      refine wp_append_lies _ (.tmp 56) (.tmp 58) 22 ho B 21 i21 (.int .i32 0) 1 4 Yba.underlying22 hi21 hz21 hs21 hy21 rfl (by decide) (.slice (some ⟨gs0, 0, none⟩) N sc) N ys rfl (bss_kept HBS1.out HCH1.out HG2.out (((HF.alloc _).alloc _).drew)) ⟨w1.heap.size + 1, 0, none⟩ 1 1 [.int .i32 (b : Int)] rfl rfl (new_over HCH1.out HG2.out (new_top w1 (.cells #[.pointer (some ⟨w.heap.size, 0, none⟩)] 47) _ 21) (by first | (simp; done) | (simp; omega)) (by omega)) (one_int _) (by decide) (by unfold maxLen; omega) (by omega) (by omega) _ rfl ?_
      intro g2 c2 w3 hown3 hgrow3 hat3 hlt3
      rw [hd]
      have H3 : Hid (Chg (two (.slice ca N cc) (.slice (some ⟨gs0, 0, none⟩) N sc)) w1 w3) := (H2.out).grown hgrow3 (fun k h _ => Or.inr h)
      have HO3 : Hid (w3.ownsRow B 21 1 (.slice (some ⟨g2, 0, none⟩) (N + 1) c2) (N + 1) (ys ++ [.int .i32 (b : Int)])) := hown3
      have HG3 := show Hid _ from hgrow3
      have HA3 := show Hid _ from hat3
      clear hown3 hgrow3 hat3
      refine hK.out _ _ (Or.inr (HS.out _ H3.out)) ?_
      clear hK K ho hd o
      simp only [Act.put, List.setIfInBounds_toArray, List.set_cons_zero, List.set_cons_succ]
      refine takeP 16 (some 60) (.nilCheck (.tmp 44)) (.pointer (some ⟨kb, 0, none⟩)) (by kernel_rfl) (by kernel_rfl) (by kernel_rfl) (by kernel_rfl) (by kernel_rfl) (fun _ _ _ h => h) ?_ ?_
      · intro o ho x
        unfold execOp
        rw [ho]
        go_simp
      simp only [Act.put, List.setIfInBounds_toArray, List.set_cons_zero, List.set_cons_succ]
      refine takeP 17 (some 61) (.fieldAddr 39 (.tmp 60) 0) (.pointer (some ⟨kb, 0, none⟩)) (by kernel_rfl) (by kernel_rfl) (by kernel_rfl) (by kernel_rfl) (by kernel_rfl) (fun _ _ _ h => h) ?_ ?_
      · intro o ho x
        unfold execOp
        rw [ho]
        go_simp
      simp only [Act.put, List.setIfInBounds_toArray, List.set_cons_zero, List.set_cons_succ]
      have hw3 : w3.heap[kb]? = some (.cells #[.slice ca N cc, .slice (some ⟨gs0, 0, none⟩) N sc, .int .i64 (n : Int)] 39 (0, 0)) := (H3.out.block kb (lt_of_blk HB1.out) HU.out).trans HB1.out
      obtain ⟨mc0, mc1, mc2, mfz⟩ := set_cells hw3
      have hw3l := lt_of_blk hw3
      clear hw3
      refine wpAnyJ_ready (rs := [18]) (by kernel_rfl) (by simp) ?_
      refine stepJ 18 (none) (.store 37 (.tmp 61) (.tmp 52)) (by kernel_rfl) (fun o ho hd K hK => ?_) AllReadyJ.nil
      unfold Oper.wp execOp
      rw [ho]
      go_simp
      refine hK.out _ _ (Or.inl (by kernel_rfl)) ?_
      clear hK K ho hd o
      refine takeP 19 (some 62) (.nilCheck (.tmp 45)) (.pointer (some ⟨kb, 0, none⟩)) (by kernel_rfl) (by kernel_rfl) (by kernel_rfl) (by kernel_rfl) (by kernel_rfl) (fun _ _ _ h => h) ?_ ?_
      · intro o ho x
        unfold execOp
        rw [ho]
        go_simp
      simp only [Act.put, List.setIfInBounds_toArray, List.set_cons_zero, List.set_cons_succ]
      refine takeP 20 (some 63) (.fieldAddr 39 (.tmp 62) 1) (.pointer (some ⟨kb, 1, none⟩)) (by kernel_rfl) (by kernel_rfl) (by kernel_rfl) (by kernel_rfl) (by kernel_rfl) (fun _ _ _ h => h) ?_ ?_
      · intro o ho x
        unfold execOp
        rw [ho]
        go_simp
      simp only [Act.put, List.setIfInBounds_toArray, List.set_cons_zero, List.set_cons_succ]
      refine wpAnyJ_ready (rs := [21]) (by kernel_rfl) (by simp) ?_
      refine stepJ 21 (none) (.store 22 (.tmp 63) (.tmp 59)) (by kernel_rfl) (fun o ho hd K hK => ?_) AllReadyJ.nil
      unfold Oper.wp execOp
      rw [ho]
      go_simp
      refine hK.out _ _ (Or.inl (by kernel_rfl)) ?_
      clear hK K ho hd o
      refine wpAnyJ_done (by kernel_rfl) ?_ _
      go_wp2
      go_end0
      exact ⟨rfl, new_end hklt HCG1.out HCK1.out HB1.out HCH1.out HBS1.out H3.out (own47_kept HG3.out HO2.out (bss_kept HBS1.out HCH1.out HG2.out (((HF.alloc _).alloc _).drew))) HO3.out (HA2.out.imp id (fun h => by rw [h]; first | omega | (simp; done) | (simp; omega))) (HA3.out.imp id (fun h => by rw [h]; first | omega | (simp; done) | (simp; omega)))⟩
  · unfold Oper.wp execOp
    rw [ho]
    go_simp
    refine hK.out _ _ (Or.inr (HS.out _ (H0.alloc (.cells #[.int .i32 (b : Int)] 21)).drew)) ?_
    clear hK K ho hd o
    refine wpAnyJ_ready (rs := [7]) (by kernel_rfl) (by simp) ?_
    refine stepJ 7 (some 51) (.buildSlice 37 1 #[(0, .tmp 50)]) (by kernel_rfl) (fun o ho hd K hK => ?_) AllReadyJ.nil
    unfold Oper.wp execOp
    rw [ho]
    go_simp
    refine hK.out _ _ (Or.inr (HS.out _ ((H0.alloc (.cells #[.int .i32 (b : Int)] 21)).alloc (.cells #[.pointer (some ⟨w.heap.size, 0, none⟩)] 47)).drew)) ?_
    clear hK K ho hd o
    refine wpAnyJ_ready (rs := [8]) (by kernel_rfl) (by simp) ?_
    refine stepJ 8 (some 52) (.call { callee := .builtin .append, args := #[.tmp 49, .tmp 51], argTypes := #[37, 37] }) (by kernel_rfl) (fun o ho hd K hK => ?_) AllReadyJ.nil
    refine wp_append_lies _ (.tmp 49) (.tmp 51) 37 ho B 47 i47 (.pointer none) 1 8 Yba.underlying37 hi47 hz47 hs47 hy47 rfl (by decide) (.slice ca N cc) N xs rfl ((HCH1.out.alloc _).alloc _) ⟨w1.heap.size + 1, 0, none⟩ 1 1 [.pointer (some ⟨w.heap.size, 0, none⟩)] rfl rfl (new_top w1 (.cells #[.int .i32 (b : Int)] 21) _ _) (one_ptr _) (by decide) (by unfold maxLen; omega) (by omega) (by simp; omega) _ rfl ?_
    intro g1 c1 w2 hown2 hgrow2 hat2 hlt2
    rw [hd]
    have H2 : Hid (Chg (two (.slice ca N cc) (.slice (some ⟨gs0, 0, none⟩) N sc)) w1 w2) := (((H0.alloc (.cells #[.int .i32 (b : Int)] 21)).alloc (.cells #[.pointer (some ⟨w.heap.size, 0, none⟩)] 47)).drew).grown hgrow2 (fun k h _ => Or.inl h)
    have HO2 : Hid (w2.ownsRow B 47 1 (.slice (some ⟨g1, 0, none⟩) (N + 1) c1) (N + 1) (xs ++ [.pointer (some ⟨w.heap.size, 0, none⟩)])) := hown2
    have HG2 := show Hid _ from hgrow2
    have HA2 := show Hid _ from hat2
    clear hown2 hgrow2 hat2
    refine hK.out _ _ (Or.inr (HS.out _ H2.out)) ?_
    clear hK K ho hd o
    simp only [Act.put, List.setIfInBounds_toArray, List.set_cons_zero, List.set_cons_succ]
    refine wpAnyJ_ready (rs := [15]) (by kernel_rfl) (by simp) ?_
    refine stepJ 15 (some 59) (.call { callee := .builtin .append, args := #[.tmp 56, .tmp 58], argTypes := #[22, 22] }) (by kernel_rfl) (fun o ho hd K hK => ?_) AllReadyJ.nil
    have hs2 : w1.heap.size ≤ w2.heap.size := H2.out.size
    refine wp_append_lies _ (.tmp 56) (.tmp 58) 22 ho B 21 i21 (.int .i32 0) 1 4 Yba.underlying22 hi21 hz21 hs21 hy21 rfl (by decide) (.slice (some ⟨gs0, 0, none⟩) N sc) N ys rfl (bss_kept HBS1.out HCH1.out HG2.out (((HF.alloc _).alloc _).drew)) ⟨w1.heap.size, 0, none⟩ 1 1 [.int .i32 (b : Int)] rfl rfl (new_over HCH1.out HG2.out (new_below w1 (.cells #[.pointer (some ⟨w.heap.size, 0, none⟩)] 47) _ 21) (by first | (simp; done) | (simp; omega)) (by omega)) (one_int _) (by decide) (by unfold maxLen; omega) (by omega) (by omega) _ rfl ?_
    intro g2 c2 w3 hown3 hgrow3 hat3 hlt3
    rw [hd]
    have H3 : Hid (Chg (two (.slice ca N cc) (.slice (some ⟨gs0, 0, none⟩) N sc)) w1 w3) := (H2.out).grown hgrow3 (fun k h _ => Or.inr h)
    have HO3 : Hid (w3.ownsRow B 21 1 (.slice (some ⟨g2, 0, none⟩) (N + 1) c2) (N + 1) (ys ++ [.int .i32 (b : Int)])) := hown3
    have HG3 := show Hid _ from hgrow3
    have HA3 := show Hid _ from hat3
    clear hown3 hgrow3 hat3
    refine hK.out _ _ (Or.inr (HS.out _ H3.out)) ?_
    clear hK K ho hd o
    simp only [Act.put, List.setIfInBounds_toArray, List.set_cons_zero, List.set_cons_succ]
    refine takeP 16 (some 60) (.nilCheck (.tmp 44)) (.pointer (some ⟨kb, 0, none⟩)) (by kernel_rfl) (by kernel_rfl) (by kernel_rfl) (by kernel_rfl) (by kernel_rfl) (fun _ _ _ h => h) ?_ ?_
    · intro o ho x
      unfold execOp
      rw [ho]
      go_simp
    simp only [Act.put, List.setIfInBounds_toArray, List.set_cons_zero, List.set_cons_succ]
    refine takeP 17 (some 61) (.fieldAddr 39 (.tmp 60) 0) (.pointer (some ⟨kb, 0, none⟩)) (by kernel_rfl) (by kernel_rfl) (by kernel_rfl) (by kernel_rfl) (by kernel_rfl) (fun _ _ _ h => h) ?_ ?_
    · intro o ho x
      unfold execOp
      rw [ho]
      go_simp
    simp only [Act.put, List.setIfInBounds_toArray, List.set_cons_zero, List.set_cons_succ]
    have hw3 : w3.heap[kb]? = some (.cells #[.slice ca N cc, .slice (some ⟨gs0, 0, none⟩) N sc, .int .i64 (n : Int)] 39 (0, 0)) := (H3.out.block kb (lt_of_blk HB1.out) HU.out).trans HB1.out
    obtain ⟨mc0, mc1, mc2, mfz⟩ := set_cells hw3
    have hw3l := lt_of_blk hw3
    clear hw3
    refine wpAnyJ_ready (rs := [18]) (by kernel_rfl) (by simp) ?_
    refine stepJ 18 (none) (.store 37 (.tmp 61) (.tmp 52)) (by kernel_rfl) (fun o ho hd K hK => ?_) AllReadyJ.nil
    unfold Oper.wp execOp
    rw [ho]
    go_simp
    refine hK.out _ _ (Or.inl (by kernel_rfl)) ?_
    clear hK K ho hd o
    refine takeP 19 (some 62) (.nilCheck (.tmp 45)) (.pointer (some ⟨kb, 0, none⟩)) (by kernel_rfl) (by kernel_rfl) (by kernel_rfl) (by kernel_rfl) (by kernel_rfl) (fun _ _ _ h => h) ?_ ?_
    · intro o ho x
      unfold execOp
      rw [ho]
      go_simp
    simp only [Act.put, List.setIfInBounds_toArray, List.set_cons_zero, List.set_cons_succ]
    refine takeP 20 (some 63) (.fieldAddr 39 (.tmp 62) 1) (.pointer (some ⟨kb, 1, none⟩)) (by kernel_rfl) (by kernel_rfl) (by kernel_rfl) (by kernel_rfl) (by kernel_rfl) (fun _ _ _ h => h) ?_ ?_
    · intro o ho x
      unfold execOp
      rw [ho]
      go_simp
    simp only [Act.put, List.setIfInBounds_toArray, List.set_cons_zero, List.set_cons_succ]
    refine wpAnyJ_ready (rs := [21]) (by kernel_rfl) (by simp) ?_
    refine stepJ 21 (none) (.store 22 (.tmp 63) (.tmp 59)) (by kernel_rfl) (fun o ho hd K hK => ?_) AllReadyJ.nil
    unfold Oper.wp execOp
    rw [ho]
    go_simp
    refine hK.out _ _ (Or.inl (by kernel_rfl)) ?_
    clear hK K ho hd o
    refine wpAnyJ_done (by kernel_rfl) ?_ _
    go_wp2
    go_end0
    exact ⟨rfl, new_end hklt HCG1.out HCK1.out HB1.out HCH1.out HBS1.out H3.out (own47_kept HG3.out HO2.out (bss_kept HBS1.out HCH1.out HG2.out (((HF.alloc _).alloc _).drew))) HO3.out (HA2.out.imp id (fun h => by rw [h]; first | omega | (simp; done) | (simp; omega))) (HA3.out.imp id (fun h => by rw [h]; first | omega | (simp; done) | (simp; omega)))⟩

end Go.Proofs.Ybulkbtwy
