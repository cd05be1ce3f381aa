import Derived.Test.YbulkbtwyKit
import Derived.WalkSpells
import Derived.WalkLawsBesides
import Derived.Outline
namespace Go.Proofs.Ybulkbtwy
open Go.RowKit

theorem Yba.info25 : (Yba.prog.info? 25).map (fun i => (i.zero, i.size, i.bytes)) = some (some (.agg #[.int .i32 0, .int .i32 0, .int .i32 0, .int .i32 0, .int .i32 0, .int .i32 0, .bool false, .bool false]), 8, 28) := by kernel_rfl

/-- The cells of a tally. -/
def tc (v c : Int) (s : Bool) : List Value := [.int .i32 v, .int .i32 0, .int .i32 c, .int .i32 0, .int .i32 0, .int .i32 0, .bool false, .bool s]

theorem tc_at (W : World) (v c : Int) (s : Bool) (T : TypeId) : ∀ j u, (tc v c s)[j]? = some u → (W.alloc (.cells (tc v c s).toArray T)).cell? ((⟨W.heap.size, 0, none⟩ : Addr).add j) = some u := by
  intro j u hj
  have hlt : j < 8 := by have := (List.getElem?_eq_some_iff.1 hj).1; simpa [tc] using this
  have : j = 0 ∨ j = 1 ∨ j = 2 ∨ j = 3 ∨ j = 4 ∨ j = 5 ∨ j = 6 ∨ j = 7 := by omega
  rcases this with rfl | rfl | rfl | rfl | rfl | rfl | rfl | rfl <;> (simp [tc] at hj; subst hj; simp [Addr.add, tc])

theorem tc_one (v c : Int) (s : Bool) : ∀ u ∈ tc v c s, u.oneCell' = true := by
  intro u hu
  simp [tc] at hu
  rcases hu with rfl | rfl | rfl | rfl | rfl | rfl <;> rfl

set_option maxHeartbeats 400000 in
theorem tally_some (B kb g cap n : Nat) (xs : List Value) (vs : List Int) (v : Int) (w : World)
    (hown : w.ownsRow B 25 8 (.slice (some ⟨g, 0, none⟩) n cap) n xs) (hx : ∀ i, i < n → xs[i * 8]? = some (.int .i32 (vs.getD i 0)))
    (hc : w.cell? ⟨kb, 6, none⟩ = some (.slice (some ⟨g, 0, none⟩) n cap)) (hf : w.frozen? ⟨kb, 6, none⟩ = false)
    (hkb : kb < w.heap.size) (hne : g ≠ kb) (hB : B ≤ w.heap.size) (hn : n ≤ 4096) :
    Calls Yba.prog 7 #[.pointer (some ⟨kb, 0, none⟩), .int .i32 v] w fun e w' =>
      (∃ i : Nat, i < n ∧ vs.getD i 0 = v ∧ (∀ j, j < i → vs.getD j 0 ≠ v) ∧ e = .returned (.int .i32 i) ∧ w' = w) ∨
      ((∀ j, j < n → vs.getD j 0 ≠ v) ∧ e = .returned (.int .i32 n) ∧ ∃ w1 sv', w1.ownsRow B 25 8 sv' (n + 1) (xs ++ tc v 0 false) ∧ Chg (fun k => k = g) w w1 ∧ w' = w1.setCell ⟨kb, 6, none⟩ sv') := by
  obtain ⟨i0, hi, hz0, hz1, hz2⟩ := info_parts Yba.info25
  have hcx : ∀ i, i < n → w.cell? ⟨g, i * 8, none⟩ = some (.int .i32 (vs.getD i 0)) := fun i h => by
    rw [hown.cellAt (i * 8) (by omega)]; exact hx i h
  go_enter Yba.func7, Yba.ntmps7
  go_wp2
  go_loop [11] (fun i => ∃ k : Nat, k ≤ n ∧ i = .int .i64 k ∧ ∀ j, j < k → vs.getD j 0 ≠ v) (fun i => n - (intOf i).toNat)
  case atStart => exact ⟨0, Nat.zero_le _, rfl, by simp⟩
  case round =>
    obtain ⟨k, hk, rfl, hno⟩ := hrel
    by_cases hlt : k < n
    · have hck := hcx k hlt
      go_wp2
      · have he : (vs[k]?.getD 0 == v) = true := by assumption
        go_ret
        refine Or.inl ⟨k, hlt, by simpa using he, hno, ?_, rfl⟩
        rfl
      · have he : (vs[k]?.getD 0 == v) = false := by assumption
        go_round
        case rel => exact ⟨k + 1, by omega, by go_num, fun j hj => by
          by_cases h : j = k
          · subst h; simpa using he
          · exact hno j (by omega)⟩
        case measure => simp [intOf]; omega
    · clear hcx hx
      go_wp2_with (at_builtin; refine wpList_append_own _ rfl (.tmp 31) (.tmp 34) 23 rfl B 25 i0 _ 8 28 Yba.underlying23 hi hz0 hz1 hz2 rfl (by decide) _ n xs rfl (hown.alloc _) ⟨w.heap.size, 0, none⟩ 1 1 (tc v 0 false) rfl rfl (tc_at w v 0 false 25) (tc_one v 0 false) ?b1 ?b2 ?b3 ?go)
      case b1 => unfold maxLen; omega
      case b2 => omega
      case b3 => first | omega | (simp; omega)
      case go =>
        intro v' w1 hown1 hgrow hnn
        obtain ⟨g', cap', rfl⟩ : ∃ g' cap', v' = .slice (some ⟨g', 0, none⟩) (n + 1) cap' := by
          rcases hown1.2 with ⟨_, h⟩ | ⟨g', cap', _, h, _⟩
          · omega
          · exact ⟨g', cap', h⟩
        have hch : Chg (fun k => k = g) w w1 := ((Chg.refl _ w).alloc _).grown hgrow (fun k h _ => by simp [Value.ownBlock] at h; exact h.symm)
        have hc1 : w1.cell? ⟨kb, 6, none⟩ = some (.slice (some ⟨g, 0, none⟩) n cap) := (hch.cell (p := ⟨kb, 6, none⟩) hkb (fun h => hne h.symm)).trans hc
        have hf1 : w1.frozen? ⟨kb, 6, none⟩ = false := (hch.frozen (p := ⟨kb, 6, none⟩) hkb (fun h => hne h.symm)).trans hf
        clear hgrow hnn
        go_wp2
        go_ret
        refine Or.inr ⟨fun j hj => hno j (by omega), ?_, w1, _, hown1, hch, rfl⟩
        rfl

set_option maxHeartbeats 400000 in
theorem tally_nil (B kb : Nat) (v : Int) (w : World)
    (hc : w.cell? ⟨kb, 6, none⟩ = some (.slice none 0 0)) (hf : w.frozen? ⟨kb, 6, none⟩ = false)
    (hkb : kb < w.heap.size) (hB : B ≤ w.heap.size) :
    Calls Yba.prog 7 #[.pointer (some ⟨kb, 0, none⟩), .int .i32 v] w fun e w' =>
      e = .returned (.int .i32 0) ∧ ∃ w1 sv', w1.ownsRow B 25 8 sv' (0 + 1) ([] ++ tc v 0 false) ∧ Chg (fun _ => False) w w1 ∧ w' = w1.setCell ⟨kb, 6, none⟩ sv' := by
  obtain ⟨i0, hi, hz0, hz1, hz2⟩ := info_parts Yba.info25
  go_enter Yba.func7, Yba.ntmps7
  go_wp2
  go_loop [11] (fun i => i = .int .i64 0) (fun _ => 0)
  case atStart => rfl
  case round =>
    subst hrel
    go_wp2_with (at_builtin; refine wpList_append_own _ rfl (.tmp 31) (.tmp 34) 23 rfl B 25 i0 _ 8 28 Yba.underlying23 hi hz0 hz1 hz2 rfl (by decide) _ 0 [] rfl (World.ownsRow_nil _ _ _ _) ⟨w.heap.size, 0, none⟩ 1 1 (tc v 0 false) rfl rfl (tc_at w v 0 false 25) (tc_one v 0 false) ?b1 ?b2 ?b3 ?go)
    case b1 => unfold maxLen; omega
    case b3 => first | omega | (simp; omega)
    case go =>
      intro v' w1 hown1 hgrow hnn
      obtain ⟨g', cap', rfl⟩ : ∃ g' cap', v' = .slice (some ⟨g', 0, none⟩) (0 + 1) cap' := by
        rcases hown1.2 with ⟨_, h⟩ | ⟨g', cap', _, h, _⟩
        · omega
        · exact ⟨g', cap', h⟩
      have hch : Chg (fun _ => False) w w1 := ((Chg.refl _ w).alloc _).grown hgrow (fun k h _ => by simp [Value.ownBlock] at h)
      have hc1 : w1.cell? ⟨kb, 6, none⟩ = some (.slice none 0 0) := (hch.cell (p := ⟨kb, 6, none⟩) hkb id).trans hc
      have hf1 : w1.frozen? ⟨kb, 6, none⟩ = false := (hch.frozen (p := ⟨kb, 6, none⟩) hkb id).trans hf
      clear hgrow hnn
      go_wp2
      go_ret
      exact ⟨rfl, w1, _, hown1, hch, rfl⟩

/-- THE CONTRACT OF tally. -/
theorem tally_any (B kb : Nat) (sv : Value) (n : Nat) (xs : List Value) (vs : List Int) (v : Int) (w : World)
    (hown : w.ownsRow B 25 8 sv n xs) (hx : ∀ i, i < n → xs[i * 8]? = some (.int .i32 (vs.getD i 0)))
    (hc : w.cell? ⟨kb, 6, none⟩ = some sv) (hf : w.frozen? ⟨kb, 6, none⟩ = false)
    (hkb : kb < w.heap.size) (hne : sv.ownBlock ≠ some kb) (hB : B ≤ w.heap.size) (hn : n ≤ 4096) :
    Calls Yba.prog 7 #[.pointer (some ⟨kb, 0, none⟩), .int .i32 v] w fun e w' =>
      (∃ i : Nat, i < n ∧ vs.getD i 0 = v ∧ (∀ j, j < i → vs.getD j 0 ≠ v) ∧ e = .returned (.int .i32 i) ∧ w' = w) ∨
      ((∀ j, j < n → vs.getD j 0 ≠ v) ∧ e = .returned (.int .i32 n) ∧ ∃ w1 sv', w1.ownsRow B 25 8 sv' (n + 1) (xs ++ tc v 0 false) ∧ Chg (fun k => sv.ownBlock = some k) w w1 ∧ w' = w1.setCell ⟨kb, 6, none⟩ sv') := by
  rcases owns_form hown with ⟨rfl, rfl, rfl⟩ | ⟨g, cap, rfl, _, _, _, _⟩
  · refine (tally_nil B kb v w hc hf hkb hB).mono fun e w' h => Or.inr ?_
    obtain ⟨he, w1, sv', h1, h2, h3⟩ := h
    exact ⟨by simp, he, w1, sv', h1, h2.mono (fun _ _ h => h.elim), h3⟩
  · refine (tally_some B kb g cap n xs vs v w hown hx hc hf hkb (fun h => hne (by rw [h]; rfl)) hB hn).mono fun e w' h => ?_
    rcases h with h | ⟨a, b, w1, sv', h1, h2, h3⟩
    · exact Or.inl h
    · exact Or.inr ⟨a, b, w1, sv', h1, h2.mono (fun k _ h => by subst h; rfl), h3⟩
end Go.Proofs.Ybulkbtwy
