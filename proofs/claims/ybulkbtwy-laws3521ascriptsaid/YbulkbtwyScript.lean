import Derived.Test.YbulkbtwyFlat
import Derived.BigQuiet
import Derived.Deep.LoopGhost
namespace Go.Proofs.Ybulkbtwy
open Go.RowKit

theorem Yba.info21 : (Yba.prog.info? 21).map (fun i => (i.zero, i.size, i.bytes)) = some (some (.int .i32 0), 1, 4) := by kernel_rfl

def tv (v : Int) : Int × Int × Bool := (v, 0, false)

/-- What the outer round keeps: the model holds ms, the track's tallies ts. -/
structure SRel (w : World) (len : Nat) (ms ts : List Int) (sv : Value) (wr : World) : Prop where
  model : wr.ownsRow (w.heap.size + 1) 21 1 (.slice (some ⟨w.heap.size + 1, 0, none⟩) ms.length len) ms.length (ms.map (Value.int .i32))
  cell : wr.cell? ⟨w.heap.size, 6, none⟩ = some sv
  frz : wr.frozen? ⟨w.heap.size, 6, none⟩ = false
  tal : wr.ownsRow (w.heap.size + 2) 25 8 sv ts.length (flat (ts.map tv))
  bel : Below w.heap.size w wr
  size : w.heap.size + 2 ≤ wr.heap.size

theorem tv_head (ms : List Int) (i : Nat) (hi : i < ms.length) : (flat (ms.map tv))[i * 8]? = some (.int .i32 (ms.getD i 0)) := by
  rw [flat_head _ i (by simpa using hi)]
  simp [tv, hi]

section
variable {w : World} {len : Nat} {ms ts : List Int} {sv : Value} {wr : World}

theorem SRel.at (S : SRel w len ms ts sv wr) (i : Nat) (hi : i < ms.length) :
    wr.cell? ⟨w.heap.size + 1, i, none⟩ = some (.int .i32 (ms.getD i 0)) := by
  rw [S.model.cellAt i (by omega)]
  simp [hi]

theorem SRel.apart (S : SRel w len ms ts sv wr) : sv.ownBlock ≠ some w.heap.size := fun h => by
  have := (owns_lt S.tal _ h).1; omega

/-- A new value: the model has grown. -/
theorem SRel.grow (S : SRel w len ms ts sv wr) (v : Int) {w1 : World} {o : Obj}
    (hm : w1.ownsRow (w.heap.size + 1) 21 1 (.slice (some ⟨w.heap.size + 1, 0, none⟩) (ms.length + 1) len) (ms.length + 1) (ms.map (Value.int .i32) ++ [.int .i32 v]))
    (hg : (wr.alloc o).grownBy w1 (some (w.heap.size + 1))) : SRel w len (ms ++ [v]) ts sv w1 := by
  have hs := S.size
  have hch : Chg (fun k => k = w.heap.size + 1) wr w1 := ((Chg.refl _ wr).alloc _).grown hg (fun k h _ => by simpa using h.symm)
  refine ⟨by simpa using hm, ?_, ?_, ?_, ?_, ?_⟩
  · rw [hch.cell (p := ⟨w.heap.size, 6, none⟩) (by simp; omega) (by simp)]; exact S.cell
  · rw [hch.frozen (p := ⟨w.heap.size, 6, none⟩) (by simp; omega) (by simp)]; exact S.frz
  · exact hch.owns S.tal (fun k hk e => by have := (owns_lt S.tal _ hk).1; omega)
  · exact S.bel.trans (hch.below (by omega) (fun k h => by omega))
  · have := hch.size; omega

/-- tally has found none: the track has grown. -/
theorem SRel.more (S : SRel w len ms ts sv wr) (v : Int) {w1 : World} {sv' : Value}
    (hm : w1.ownsRow (w.heap.size + 2) 25 8 sv' (ts.length + 1) (flat (ts.map tv) ++ tc v 0 false))
    (hch : Chg (fun k => sv.ownBlock = some k) wr w1) : SRel w len ms (ts ++ [v]) sv' (w1.setCell ⟨w.heap.size, 6, none⟩ sv') := by
  have hs := S.size
  have hfr : w1.frozen? ⟨w.heap.size, 6, none⟩ = false := by rw [hch.frozen (p := ⟨w.heap.size, 6, none⟩) (by simp; omega) S.apart]; exact S.frz
  have hce : w1.cell? ⟨w.heap.size, 6, none⟩ = some sv := by rw [hch.cell (p := ⟨w.heap.size, 6, none⟩) (by simp; omega) S.apart]; exact S.cell
  have hsz := hch.size
  refine ⟨?_, ?_, ?_, ?_, ?_, ?_⟩
  · refine owns_setCell (hch.owns S.model (fun k hk e => ?_)) (by simp [Value.ownBlock]) _
    have := (owns_lt S.tal _ e).1
    have hk' : w.heap.size + 1 = k := Option.some.inj hk
    omega
  · exact World.cell?_setCell_same _ _ _ hce
  · simpa using hfr
  · refine owns_setCell (by simpa [flat_snoc, tv] using hm) (fun h => ?_) _
    have : w.heap.size + 2 ≤ w.heap.size := (owns_lt hm _ h).1
    omega
  · exact (S.bel.trans (hch.below (by omega) (fun k h => by have := (owns_lt S.tal _ h).1; omega))).setCell (by simp) _
  · simpa [World.setCell] using (by omega : w.heap.size + 2 ≤ w1.heap.size)

theorem SRel.draws (S : SRel w len ms ts sv wr) (n : Nat) : SRel w len ms ts sv (wr.drewN n) :=
  ⟨S.model, S.cell, S.frz, S.tal, below_drewN S.bel n, S.size⟩

/-- tally, from a state of the script. -/
theorem SRel.tally (S : SRel w len ms ts sv wr) (v : Int) (hn : ts.length ≤ 4096) :
    Calls Yba.prog 7 #[.pointer (some ⟨w.heap.size, 0, none⟩), .int .i32 v] wr fun e w' =>
      (∃ i : Nat, i < ts.length ∧ ts.getD i 0 = v ∧ (∀ j, j < i → ts.getD j 0 ≠ v) ∧ e = .returned (.int .i32 i) ∧ w' = wr) ∨
      ((∀ j, j < ts.length → ts.getD j 0 ≠ v) ∧ e = .returned (.int .i32 ts.length) ∧ ∃ sv', SRel w len ms (ts ++ [v]) sv' w') := by
  refine (tally_any (w.heap.size + 2) w.heap.size sv ts.length (flat (ts.map tv)) ts v wr S.tal (fun i hi => tv_head ts i hi) S.cell S.frz (by have := S.size; omega) S.apart S.size hn).mono fun e w' h => ?_
  rcases h with h | ⟨h1, h2, w1, sv', h3, h4, rfl⟩
  · exact Or.inl h
  · exact Or.inr ⟨h1, h2, sv', S.more v h3 h4⟩

/-- .. where the k-th is the first. -/
theorem SRel.tally_hit (S : SRel w len ms ts sv wr) (v : Int) (hn : ts.length ≤ 4096) (k : Nat) (hk : k < ts.length) (hkv : ts.getD k 0 = v) (hno : ∀ j, j < k → ts.getD j 0 ≠ v) :
    Calls Yba.prog 7 #[.pointer (some ⟨w.heap.size, 0, none⟩), .int .i32 v] wr fun e w' => e = .returned (.int .i32 k) ∧ wr = w' := by
  refine (S.tally v hn).mono fun e w' h => ?_
  rcases h with ⟨i, h1, h2, h3, rfl, rfl⟩ | ⟨h1, _⟩
  · have : i = k := by
      rcases Nat.lt_trichotomy i k with h | h | h
      · exact absurd h2 (hno i h)
      · exact h
      · exact absurd hkv (h3 k h)
    subst this
    exact ⟨rfl, rfl⟩
  · exact absurd hkv (h1 k hk)

/-- .. where there is none. -/
theorem SRel.tally_new (S : SRel w len ms ts sv wr) (v : Int) (hn : ts.length ≤ 4096) (hno : ∀ j, j < ts.length → ts.getD j 0 ≠ v) :
    Calls Yba.prog 7 #[.pointer (some ⟨w.heap.size, 0, none⟩), .int .i32 v] wr fun e w' => e = .returned (.int .i32 ts.length) ∧ ∃ sv', SRel w len ms (ts ++ [v]) sv' w' := by
  refine (S.tally v hn).mono fun e w' h => ?_
  rcases h with ⟨i, h1, h2, _⟩ | ⟨_, h2, h3⟩
  · exact absurd h2 (hno i h1)
  · exact ⟨h2, h3⟩
end

theorem decide_no {len : Nat} (h : len ≤ 1024) : decide ((1024 : Int) < (len : Int)) = false := by simp; omega

theorem script_start (w w1 : World) (len : Nat) (o : Obj) (ho : o = .cells #[.bool false, .bool false, .int .i32 (-1), .bool false, .bool false, .int .i32 (-1), .slice none 0 0] 30)
    (hown1 : w1.ownsRow (w.heap.size + 1) 21 1 (.slice (some ⟨w.heap.size + 1, 0, none⟩) 0 len) 0 []) (hg1 : (w.alloc o).grownBy w1 none) : SRel w len [] [] (.slice none 0 0) w1 := by
  subst ho
  have hch : Chg (fun _ => False) (w.alloc (.cells #[.bool false, .bool false, .int .i32 (-1), .bool false, .bool false, .int .i32 (-1), .slice none 0 0] 30)) w1 :=
    (Chg.refl _ _).grown hg1 (fun k h _ => by simp at h)
  refine ⟨by simpa using hown1, ?_, ?_, World.ownsRow_nil _ _ _ _, ?_, ?_⟩
  · rw [hch.cell (p := ⟨w.heap.size, 6, none⟩) (by simp) id]; simp
  · rw [hch.frozen (p := ⟨w.heap.size, 6, none⟩) (by simp) id]; simp
  · exact (((Below.refl _ _).alloc (Nat.le_refl _) _)).grown hg1 (by simp) (fun k h => by simp at h)
  · rcases hown1.2 with ⟨h, _⟩ | ⟨g, c, cur, h, _, hh, _⟩
    · cases h
    · simp at h
      have := (Array.getElem?_eq_some_iff.1 hh).1
      omega

set_option maxHeartbeats 1000000 in
theorem script_some (b off len cap : Nat) (zs : List Int) (w : World) (hlc : len ≤ cap) (hz : zs.length = cap) (hb : b < w.heap.size)
    (hcell : ∀ i, i < zs.length → w.cell? ⟨b, off + i, none⟩ = some (.int .i32 (zs.getD i 0))) (hsm : len ≤ 1024) :
    Calls Yba.prog 4 #[.slice (some ⟨b, off, none⟩) len cap] w fun e w' => e = .returned (.bool true) ∧ Below w.heap.size w w' := by
  obtain ⟨i1, hi1, hy0, hy1, hy2⟩ := info_parts Yba.info21
  have hd := decide_no hsm
  go_enter Yba.func4, Yba.ntmps4
  go_wp2_with (at_make; refine wpList_make_own _ rfl _ _ 22 rfl (w.heap.size + 1) 21 i1 (.int .i32 0) 1 Yba.underlying22 hi1 hy0 hy1 .i64 .i64 _ len rfl rfl rfl ?m1 ?m2 ?m3 ?m4)
  case m1 => rw [hy2]; omega
  case m2 => unfold maxLen; omega
  case m3 => simp
  case m4 =>
    intro w1 hown1 hg1
    have S0 : SRel w len [] [] (.slice none 0 0) w1 := script_start w w1 len _ rfl hown1 hg1
    clear hown1 hg1
    go_wp2
    go_loopw [4, 5] (fun m i wr => ∃ (s : Nat) (ms : List Int) (sv : Value), s ≤ len ∧ ms.length ≤ s ∧ i = .int .i64 s ∧ m = .slice (some ⟨w.heap.size + 1, 0, none⟩) ms.length len ∧ SRel w len ms ms sv wr)
      (fun _ i _ => len - (intOf i).toNat)
    case atStart => exact ⟨0, [], _, Nat.zero_le _, Nat.zero_le _, rfl, rfl, S0⟩
    case round =>
      obtain ⟨s, ms, sv, hs, hms, rfl, rfl, S⟩ := hrel
      by_cases hlt : s < len
      · have hck : wr.cell? ⟨b, off + s, none⟩ = some (.int .i32 (zs.getD s 0)) := (S.bel.cell (p := ⟨b, off + s, none⟩) hb).trans (hcell s (by omega))
        obtain ⟨v, hv⟩ : ∃ v, v = zs.getD s 0 := ⟨_, rfl⟩
        rw [← hv] at hck
        clear hcell hv S0
        go_wp2
        go_loop [7, 8] (fun wt i => ∃ k : Nat, k ≤ ms.length ∧ wt = .int .i64 (-1) ∧ i = .int .i64 k ∧ ∀ j, j < k → ms.getD j 0 ≠ v) (fun _ i => ms.length - (intOf i).toNat)
        case atStart => exact ⟨0, Nat.zero_le _, rfl, rfl, by simp⟩
        case round =>
          obtain ⟨k, hk, rfl, rfl, hno⟩ := hrel
          by_cases hkl : k < ms.length
          · have hmk := S.at k hkl
            go_wp2_with fail
            · have he : (ms[k] == v) = true := by assumption
              refine (S.tally_hit v (by omega) k hkl (by simpa [hkl] using he) hno).mono ?_
              rintro e w' ⟨rfl, rfl⟩
              clear he hno
              go_wp2
              go_roundw
              case rel => exact ⟨s + 1, ms, sv, by omega, by omega, by go_num, rfl, S⟩
              case measure => simp [intOf]; omega
            · have he : (ms[k] == v) = false := by assumption
              go_round
              case rel => exact ⟨k + 1, by omega, rfl, by go_num, fun j hj => by
                by_cases h : j = k
                · subst h; simpa [hkl] using he
                · exact hno j (by omega)⟩
              case measure => simp [intOf]; omega
          · have hno' : ∀ j, j < ms.length → ms.getD j 0 ≠ v := fun j hj => hno j (by omega)
            have Hno := show Hid (∀ j, j < ms.length → ms.getD j 0 ≠ v) from hno'
            clear hno hno'
            go_wp2_with (at_builtin; refine wpList_append_fits _ rfl (.tmp 44) (.tmp 46) 22 rfl (w.heap.size + 1) 21 i1 1 Yba.underlying22 hi1 hy1 (w.heap.size + 1) ms.length len (ms.map (Value.int .i32)) rfl (S.model.alloc _) ⟨wr.heap.size, 0, none⟩ 1 1 [.int .i32 v] rfl rfl (cell_one_new _ _ _) ?c2 ?c3 ?go)
            case c2 => rfl
            case c3 => omega
            case go =>
              intro w2 hm2 hg2
              have S2 := S.grow v hm2 hg2
              clear hm2 hg2 S hck
              go_wp2_with fail
              refine (S2.tally_new v (by omega) Hno.out).mono ?_
              rintro e w' ⟨rfl, sv', S3⟩
              clear S2 Hno
              go_wp2
              go_roundw
              case rel => exact ⟨s + 1, ms ++ [v], sv', by omega, by simp; omega, by go_num, by simp, S3⟩
              case measure => simp [intOf]; omega
      · have hcS := S.cell
        clear hcell S0
        rcases owns_form S.tal with ⟨rfl, hml, _⟩ | ⟨g, ct, rfl, hg1, hg2, hg3, hg4⟩
        · obtain rfl : ms = [] := List.eq_nil_of_length_eq_zero hml
          have hbel := S.bel
          clear S
          go_wp2
          go_loop [9] (fun i => i = .int .i64 0) (fun _ => 0)
          case atStart => rfl
          case round =>
            subst hrel
            go_wp2
            go_ret
            exact ⟨rfl, hbel⟩
        · go_wp2
          go_loopw [9] (fun i wx => ∃ k : Nat, k ≤ ms.length ∧ i = .int .i64 k ∧ SRel w len ms ms (.slice (some ⟨g, 0, none⟩) ms.length ct) wx) (fun i _ => ms.length - (intOf i).toNat)
          case atStart => exact ⟨0, Nat.zero_le _, rfl, S⟩
          case round =>
            obtain ⟨k, hk, rfl, T⟩ := hrel
            by_cases hkl : k < ms.length
            · have hc1 := T.cell
              have hm1 := T.at k hkl
              obtain ⟨e0, e1, e2, e3, e4, e5, e6, e7⟩ := tally_cells T.tal (by simp) k hkl (ms.getD k 0) 0 false (by simp [hkl, tv])
              go_wp2
              go_quiet (fail)
              go_wp2
              go_roundw
              case rel => exact ⟨k + 1, by omega, by go_num, T.draws _⟩
              case measure => simp [intOf]; omega
            · have hbel := T.bel
              go_wp2
              go_ret
              exact ⟨rfl, hbel⟩

set_option maxHeartbeats 400000 in
/-- A slice without elements. -/
theorem script_none (a0 : Option Addr) (cap : Nat) (w : World) : Calls Yba.prog 4 #[.slice a0 0 cap] w fun e w' => e = .returned (.bool true) ∧ Below w.heap.size w w' := by
  obtain ⟨i1, hi1, hy0, hy1, hy2⟩ := info_parts Yba.info21
  go_enter Yba.func4, Yba.ntmps4
  go_wp2_with (at_make; refine wpList_make_own _ rfl _ _ 22 rfl (w.heap.size + 1) 21 i1 (.int .i32 0) 1 Yba.underlying22 hi1 hy0 hy1 .i64 .i64 _ 0 rfl rfl rfl ?m1 ?m2 ?m3 ?m4)
  case m1 => rw [hy2]; omega
  case m2 => unfold maxLen; omega
  case m3 => simp
  case m4 =>
    intro w1 hown1 hg1
    have S0 : SRel w 0 [] [] (.slice none 0 0) w1 := script_start w w1 0 _ rfl hown1 hg1
    have hcS := S0.cell
    have hbel := S0.bel
    clear hown1 hg1 S0
    go_wp2
    go_loop [4, 5] (fun m i => m = .slice (some ⟨w.heap.size + 1, 0, none⟩) 0 0 ∧ i = .int .i64 0) (fun _ _ => 0)
    case atStart => exact ⟨rfl, rfl⟩
    case round =>
      obtain ⟨rfl, rfl⟩ := hrel
      go_wp2
      go_loop [9] (fun i => i = .int .i64 0) (fun _ => 0)
      case atStart => rfl
      case round =>
        subst hrel
        go_wp2
        go_ret
        exact ⟨rfl, hbel⟩

set_option maxHeartbeats 400000 in
/-- A slice that is too long. -/
theorem script_long (a0 : Option Addr) (len cap : Nat) (w : World) (h : 1024 < len) : Calls Yba.prog 4 #[.slice a0 len cap] w fun e w' => e = .returned (.bool true) ∧ Below w.heap.size w w' := by
  have hd : decide ((1024 : Int) < (len : Int)) = true := by simp; omega
  go_enter Yba.func4, Yba.ntmps4
  go_wp2
  go_ret
  exact ⟨rfl, Below.refl _ _⟩

end Go.Proofs.Ybulkbtwy
