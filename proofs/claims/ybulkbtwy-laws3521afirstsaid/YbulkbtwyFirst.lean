import Derived.Test.YbulkbtwyMix
import Derived.BigQuiet
import Derived.Deep.LoopGhost
namespace Go.Proofs.Ybulkbtwy
open Go.RowKit

theorem first_long (a0 : Option Addr) (len cap : Nat) (v : Int) (w : World) (h : 1024 < len) : Calls Yba.prog 3 #[.slice a0 len cap, .int .i32 v] w fun e w' => e = .returned (.bool true) ∧ Below w.heap.size w w' := by
  have hd : decide ((1024 : Int) < (len : Int)) = true := by simp; omega
  go_enter Yba.func3, Yba.ntmps3
  go_wp2
  go_ret
  exact ⟨rfl, Below.refl _ _⟩

theorem decide_no' {len : Nat} (h : len ≤ 1024) : decide ((1024 : Int) < (len : Int)) = false := by simp; omega

theorem par_no (s : Nat) : (s : Int) % 2 = ((s % 2 : Nat) : Int) := by omega

/-- What tally answers on the laid tallies. -/
theorem mix_val (zs : List Int) (n j : Nat) (hj : j < n) : ((mix zs n n).map (·.1)).getD j 0 = zs.getD j 0 := by
  simp [mix, hj]

theorem mix_last (zs : List Int) (s : Nat) (t : Int × Int × Bool) : (mix zs s s ++ [t]).getD s (0, 0, false) = t := by
  rw [List.getD_eq_getElem?_getD, List.getElem?_append_right (by rw [mix_length]; omega), mix_length]; simp

theorem mix_snoc_at (zs : List Int) (s k : Nat) (t : Int × Int × Bool) (hk : k < s) : (mix zs s s ++ [t]).getD k (0, 0, false) = (zs.getD k 0, (k : Int), (k : Int) % 2 == 0) := by
  rw [List.getD_eq_getElem?_getD, List.getElem?_append_left (by rw [mix_length]; omega), ← List.getD_eq_getElem?_getD, mix_at zs s s k hk, if_pos hk]

set_option maxRecDepth 100000 in
set_option maxHeartbeats 1000000 in
theorem first_some (b off len cap : Nat) (zs : List Int) (v : Int) (w : World) (hlc : len ≤ cap) (hz : zs.length = cap) (hb : b < w.heap.size)
    (hcell : ∀ i, i < zs.length → w.cell? ⟨b, off + i, none⟩ = some (.int .i32 (zs.getD i 0))) (hsm : len ≤ 1024) :
    Calls Yba.prog 3 #[.slice (some ⟨b, off, none⟩) len cap, .int .i32 v] w fun e w' => e = .returned (.bool true) ∧ Below w.heap.size w w' := by
  obtain ⟨i0, hi, hz0, hz1, hz2⟩ := info_parts Yba.info25
  have hd := decide_no' hsm
  go_enter Yba.func3, Yba.ntmps3
  go_wp2_with (at_make; refine wpList_make_full _ rfl (.tmp 18) (.tmp 18) 23 rfl w.heap.size 25 i0 (.agg #[.int .i32 0, .int .i32 0, .int .i32 0, .int .i32 0, .int .i32 0, .int .i32 0, .bool false, .bool false]) 8 Yba.underlying23 hi hz0 hz1 .i64 .i64 (len : Int) (len : Int) len rfl rfl rfl rfl ?m1 ?m2 ?m3 ?m4)
  case m1 => rw [hz2]; omega
  case m2 => unfold maxLen; omega
  case m3 => simp
  case m4 =>
    intro w1 hown0 hg1
    have hown1 : w1.ownsRow w.heap.size 25 8 (.slice (some ⟨w.heap.size, 0, none⟩) len len) len (flat (mix zs len 0)) := by
      rw [← made_flat zs len]
      exact hown0
    clear hown0
    have hbel0 : Below w.heap.size w w1 := (Below.refl _ _).grown hg1 (by simp) (fun k h => by simp at h)
    clear hg1
    go_wp2
    go_loopw [7] (fun i wr => ∃ (s : Nat), s ≤ len ∧ i = .int .i64 s ∧ wr.ownsRow w.heap.size 25 8 (.slice (some ⟨w.heap.size, 0, none⟩) len len) len (flat (mix zs len s)) ∧ Below w.heap.size w wr)
      (fun i _ => len - (intOf i).toNat)
    case atStart => exact ⟨0, Nat.zero_le _, rfl, hown1, hbel0⟩
    case round =>
      obtain ⟨s, hs, rfl, S, hbel⟩ := hrel
      by_cases hlt : s < len
      · have hck : wr.cell? ⟨b, off + s, none⟩ = some (.int .i32 (zs.getD s 0)) := (hbel.cell (p := ⟨b, off + s, none⟩) hb).trans (hcell s (by omega))
        obtain ⟨e0, e1, e2, e3, e4, e5, e6, e7⟩ := tally_cells S (by simp [mix]) s hlt 0 0 false (by simp [mix, hlt])
        have fz : ∀ j, wr.frozen? ⟨w.heap.size, j, none⟩ = false := fun j => S.frozenAt j
        clear hcell hown1 hbel0
        go_wp2
        go_roundw
        case rel =>
          refine ⟨s + 1, by omega, by go_num, ?_, ?_⟩
          · rw [mix_step]
            exact owns_store8 S s (by rw [mix_length]; omega) _ _ _
          · exact (((((((hbel.setCell (Nat.le_refl _) _).setCell (Nat.le_refl _) _).setCell (Nat.le_refl _) _).setCell (Nat.le_refl _) _).setCell (Nat.le_refl _) _).setCell (Nat.le_refl _) _).setCell (Nat.le_refl _) _).setCell (Nat.le_refl _) _
        case measure => simp [intOf]; omega
      · obtain rfl : s = len := by omega
        clear hown1 hbel0 hlt
        have F := first_start (w := w) (wr := wr) (len := s) (ts := mix zs s s) _ (mix_length zs s s) rfl S hbel
        clear S hbel
        go_wp2_with fail
        refine (F.tally v (by rw [mix_length]; omega)).mono ?_
        rintro e w2 (⟨i, hi1, hi2, hi3, rfl, F⟩ | ⟨hno, rfl, sv', F⟩)
        · rw [mix_length] at hi1
          rw [mix_val zs s i hi1] at hi2
          have hi4 : Hid (∀ j, j < i → zs.getD j 0 ≠ v) := fun j hj => by
            have := hi3 j hj
            rwa [mix_val zs s j (by omega)] at this
          have HI2 : Hid (zs.getD i 0 = v) := hi2
          clear hi2 hi3
          go_wp2
          go_loop [10, 11] (fun wt q => ∃ k : Nat, k ≤ i ∧ wt = .int .i64 (-1) ∧ q = .int .i64 k) (fun _ q => i - (intOf q).toNat)
          case atStart => exact ⟨0, Nat.zero_le _, rfl, rfl⟩
          case round =>
            obtain ⟨k, hk, rfl, rfl⟩ := hrel
            have hm1 : w2.cell? ⟨b, off + k, none⟩ = some (.int .i32 (zs.getD k 0)) := (F.bel.cell (p := ⟨b, off + k, none⟩) hb).trans (hcell k (by omega))
            by_cases hki : k = i
            · subst hki
              rw [HI2.out] at hm1
              have hc1 := F.cell
              clear HI2 hi4
              go_wp2
              go_loopw [12] (fun i wx => ∃ k : Nat, k ≤ s ∧ i = .int .i64 k ∧ FRel w wr.heap.size (mix zs s s) (.slice (some ⟨w.heap.size, 0, none⟩) s s) wx) (fun i _ => s - (intOf i).toNat)
              case atStart => exact ⟨0, Nat.zero_le _, rfl, F⟩
              case round =>
                obtain ⟨k, hk, rfl, T⟩ := hrel
                clear F
                by_cases hkl : k < s
                · have hc1 := T.cell
                  have hm1 : wr.cell? ⟨b, off + k, none⟩ = some (.int .i32 (zs.getD k 0)) := (T.bel.cell (p := ⟨b, off + k, none⟩) hb).trans (hcell k (by omega))
                  have htl := T.tal
                  rw [mix_length] at htl
                  obtain ⟨e0, e1, e2, e3, e4, e5, e6, e7⟩ := tally_cells htl (mix_length zs s s) k (by omega) (zs.getD k 0) k ((k : Int) % 2 == 0) (by rw [mix_at zs s s k hkl, if_pos hkl])
                  clear hcell
                  go_wp2
                  go_quiet (fail)
                  go_wp2
                  go_roundw
                  case rel => exact ⟨k + 1, by omega, by go_num, T.draws _⟩
                  case measure => simp [intOf]; omega
                · have hc0 := T.c0
                  have hc1 := T.c1
                  have hc2 := T.c2
                  have hc3 := T.c3
                  have hc4 := T.c4
                  have hc5 := T.c5
                  have hbel := T.bel
                  clear hcell T
                  go_wp2
                  go_ret
                  exact ⟨rfl, hbel⟩
            · have hb1 : (zs[k]?.getD 0 == v) = false := by
                have := hi4.out k (by omega)
                simpa using this
              clear hcell HI2 hi4
              go_wp2
              go_round
              case rel => exact ⟨k + 1, by omega, rfl, by go_num⟩
              case measure => simp [intOf]; omega
        · have hno' : Hid (∀ j, j < s → zs.getD j 0 ≠ v) := fun j hj => by
            have := hno j (by rw [mix_length]; exact hj)
            rwa [mix_val zs s j hj] at this
          clear hno
          have htl0 := F.tal
          simp only [List.length_append, List.length_singleton, mix_length] at htl0
          obtain ⟨g', cap', rfl⟩ : ∃ g' cap', sv' = .slice (some ⟨g', 0, none⟩) (s + 1) cap' := by
            rcases owns_form htl0 with ⟨_, h, _⟩ | ⟨g', cap', h, _⟩
            · omega
            · exact ⟨g', cap', h⟩
          clear htl0
          rw [mix_length]
          go_wp2
          go_loop [10, 11] (fun wt q => ∃ k : Nat, k ≤ s ∧ wt = .int .i64 (-1) ∧ q = .int .i64 k) (fun _ q => s - (intOf q).toNat)
          case atStart => exact ⟨0, Nat.zero_le _, rfl, rfl⟩
          case round =>
            obtain ⟨k, hk, rfl, rfl⟩ := hrel
            by_cases hki : k < s
            · have hm1 : w2.cell? ⟨b, off + k, none⟩ = some (.int .i32 (zs.getD k 0)) := (F.bel.cell (p := ⟨b, off + k, none⟩) hb).trans (hcell k (by omega))
              have hb1 : (zs[k]?.getD 0 == v) = false := by
                have := hno'.out k hki
                simpa using this
              clear hcell hno'
              go_wp2
              go_round
              case rel => exact ⟨k + 1, by omega, rfl, by go_num⟩
              case measure => simp [intOf]; omega
            · have hc1 := F.cell
              have htl := F.tal
              simp only [List.length_append, List.length_singleton, mix_length] at htl
              obtain ⟨e0, e1, e2, e3, e4, e5, e6, e7⟩ := tally_cells htl (by simp [mix_length]) s (by omega) v 0 false (mix_last zs s _)
              clear htl hno'
              go_wp2
              clear e0 e1 e2 e3 e4 e5 e6 e7
              go_loopw [12] (fun i wx => ∃ k : Nat, k ≤ s ∧ i = .int .i64 k ∧ FRel w wr.heap.size (mix zs s s ++ [(v, 0, false)]) (.slice (some ⟨g', 0, none⟩) (s + 1) cap') wx) (fun i _ => s - (intOf i).toNat)
              case atStart => exact ⟨0, Nat.zero_le _, rfl, F⟩
              case round =>
                obtain ⟨k, hk, rfl, T⟩ := hrel
                clear F
                by_cases hkl : k < s
                · have hc1 := T.cell
                  have hm1 : wr.cell? ⟨b, off + k, none⟩ = some (.int .i32 (zs.getD k 0)) := (T.bel.cell (p := ⟨b, off + k, none⟩) hb).trans (hcell k (by omega))
                  have htl := T.tal
                  simp only [List.length_append, List.length_singleton, mix_length] at htl
                  obtain ⟨e0, e1, e2, e3, e4, e5, e6, e7⟩ := tally_cells htl (by simp [mix_length]) k (by omega) (zs.getD k 0) k ((k : Int) % 2 == 0) (mix_snoc_at zs s k _ hkl)
                  clear hcell htl
                  go_wp2
                  go_quiet (fail)
                  go_wp2
                  go_roundw
                  case rel => exact ⟨k + 1, by omega, by go_num, T.draws _⟩
                  case measure => simp [intOf]; omega
                · have hc0 := T.c0
                  have hc1 := T.c1
                  have hc2 := T.c2
                  have hc3 := T.c3
                  have hc4 := T.c4
                  have hc5 := T.c5
                  have hbel := T.bel
                  clear hcell T
                  go_wp2
                  go_ret
                  exact ⟨rfl, hbel⟩

set_option maxRecDepth 100000 in
set_option maxHeartbeats 1000000 in
/-- A slice without elements. -/
theorem first_none (a0 : Option Addr) (cap : Nat) (v : Int) (w : World) : Calls Yba.prog 3 #[.slice a0 0 cap, .int .i32 v] w fun e w' => e = .returned (.bool true) ∧ Below w.heap.size w w' := by
  obtain ⟨i0, hi, hz0, hz1, hz2⟩ := info_parts Yba.info25
  go_enter Yba.func3, Yba.ntmps3
  go_wp2_with (at_make; refine wpList_make_full _ rfl (.tmp 18) (.tmp 18) 23 rfl w.heap.size 25 i0 (.agg #[.int .i32 0, .int .i32 0, .int .i32 0, .int .i32 0, .int .i32 0, .int .i32 0, .bool false, .bool false]) 8 Yba.underlying23 hi hz0 hz1 .i64 .i64 0 0 0 rfl rfl rfl rfl ?m1 ?m2 ?m3 ?m4)
  case m1 => rw [hz2]; omega
  case m2 => unfold maxLen; omega
  case m3 => simp
  case m4 =>
    intro w1 hown0 hg1
    have hown1 : w1.ownsRow w.heap.size 25 8 (.slice (some ⟨w.heap.size, 0, none⟩) 0 0) 0 (flat (mix [] 0 0)) := by
      rw [← made_flat [] 0]
      exact hown0
    clear hown0
    have hbel0 : Below w.heap.size w w1 := (Below.refl _ _).grown hg1 (by simp) (fun k h => by simp at h)
    clear hg1
    go_wp2
    go_loop [7] (fun i => i = .int .i64 0) (fun _ => 0)
    case atStart => rfl
    case round =>
      subst hrel
      have F := first_start (w := w) (wr := w1) (len := 0) (ts := mix [] 0 0) _ (mix_length [] 0 0) rfl hown1 hbel0
      clear hown1 hbel0
      go_wp2_with fail
      refine (F.tally v (by rw [mix_length]; omega)).mono ?_
      rintro e w2 (⟨i, hi1, _⟩ | ⟨_, rfl, sv', F⟩)
      · rw [mix_length] at hi1
        omega
      · have htl0 := F.tal
        simp only [List.length_append, List.length_singleton, mix_length] at htl0
        obtain ⟨g', cap', rfl⟩ : ∃ g' cap', sv' = .slice (some ⟨g', 0, none⟩) (0 + 1) cap' := by
          rcases owns_form htl0 with ⟨_, h, _⟩ | ⟨g', cap', h, _⟩
          · omega
          · exact ⟨g', cap', h⟩
        rw [mix_length]
        have hc := F.cell
        obtain ⟨e0, e1, e2, e3, e4, e5, e6, e7⟩ := tally_cells htl0 (by simp [mix_length]) 0 (by omega) v 0 false (mix_last [] 0 _)
        clear htl0
        go_wp2
        go_loop [10, 11] (fun wt q => wt = .int .i64 (-1) ∧ q = .int .i64 0) (fun _ _ => 0)
        case atStart => exact ⟨rfl, rfl⟩
        case round =>
          obtain ⟨rfl, rfl⟩ := hrel
          go_wp2
          go_loop [12] (fun i => i = .int .i64 0) (fun _ => 0)
          case atStart => rfl
          case round =>
            subst hrel
            have hc0 := F.c0
            have hc1 := F.c1
            have hc2 := F.c2
            have hc3 := F.c3
            have hc4 := F.c4
            have hc5 := F.c5
            have hbel := F.bel
            clear F
            go_wp2
            go_ret
            exact ⟨rfl, hbel⟩

end Go.Proofs.Ybulkbtwy
