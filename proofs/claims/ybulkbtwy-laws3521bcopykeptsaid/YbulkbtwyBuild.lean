import Derived.Test.YbulkbtwyStep
set_option linter.unusedVariables false
namespace Go.Proofs.Ybulkbtwy
open Go.RowKit

def i32s (ds : List Nat) : List Value := ds.map fun (d : Nat) => Value.int .i32 (d : Int)

/-- Strictly increasing, and below nx. -/
structure Inc (ds : List Nat) (nx : Nat) : Prop where
  inc : List.Pairwise (· < ·) ds
  top : ∀ d ∈ ds, d < nx

theorem Inc.snoc {ds : List Nat} {nx : Nat} (h : Inc ds nx) : Inc (ds ++ [nx]) (nx + 1) := by
  refine ⟨?_, ?_⟩
  · rw [List.pairwise_append]
    refine ⟨h.inc, by simp, fun a ha b hb => ?_⟩
    have := List.mem_singleton.1 hb
    subst this
    exact h.top a ha
  · intro d hd
    rcases List.mem_append.1 hd with hd | hd
    · have := h.top d hd; omega
    · have := List.mem_singleton.1 hd; omega
theorem Inc.up {ds : List Nat} {nx ny : Nat} (h : Inc ds nx) (hl : nx ≤ ny) : Inc ds ny := ⟨h.inc, fun d hd => by have := h.top d hd; omega⟩

/-- What the build keeps. -/
structure BRel (w : World) (cap : Nat) (ds : List Nat) (nx : Nat) (wr : World) : Prop where
  own : wr.ownsRow w.heap.size 21 1 (.slice (some ⟨w.heap.size, 0, none⟩) ds.length cap) ds.length (i32s ds)
  inc : Inc ds nx
  bel : Below w.heap.size w wr
  siz : w.heap.size < wr.heap.size

theorem BRel.up {w : World} {cap : Nat} {ds : List Nat} {nx ny : Nat} {wr : World} (h : BRel w cap ds nx wr) (hl : nx ≤ ny) : BRel w cap ds ny wr := ⟨h.own, h.inc.up hl, h.bel, h.siz⟩

theorem i32s_snoc (ds : List Nat) (d : Nat) : i32s (ds ++ [d]) = i32s ds ++ [.int .i32 (d : Int)] := by simp [i32s]

theorem BRel.snoc {w : World} {cap : Nat} {ds : List Nat} {nx : Nat} {wr w1 : World} (h : BRel w cap ds nx wr) {o : Obj}
    (ho : w1.ownsRow w.heap.size 21 1 (.slice (some ⟨w.heap.size, 0, none⟩) (ds.length + 1) cap) (ds.length + 1) (i32s ds ++ [.int .i32 (nx : Int)])) (hg : (wr.alloc o).grownBy w1 (some w.heap.size)) :
    BRel w cap (ds ++ [nx]) (nx + 1) w1 := by
  refine ⟨?_, h.inc.snoc, ?_, ?_⟩
  · rw [i32s_snoc, List.length_append]; exact ho
  · exact (h.bel.alloc (by have := h.siz; omega) _).grown hg (by have := h.siz; simp; omega) (fun k hk => by have := Option.some.inj hk; omega)
  · have := hg.size; have := h.siz; simp at *; omega

theorem brel_start (w w1 : World) (st cap : Nat) (hown : w1.ownsRow w.heap.size 21 1 (.slice (some ⟨w.heap.size, 0, none⟩) 0 cap) 0 []) (hg : w.grownBy w1 none) : BRel w cap [] st w1 :=
  ⟨hown, ⟨List.Pairwise.nil, by simp⟩, (Below.refl _ _).grown hg (Nat.le_refl _) (fun k h => by simp at h), (owns_lt hown _ rfl).2⟩

set_option maxRecDepth 100000 in
set_option maxHeartbeats 1000000 in
theorem build_some (b off len cap st : Nat) (zs : List Nat) (w : World) (hb : b < w.heap.size) (hlen : len ≤ 1024) (hst : st < 65536)
    (hcell : ∀ i, i < len → w.cell? ⟨b, off + i, none⟩ = some (.int .u16 ((zs.getD i 0 : Nat) : Int)) ∧ zs.getD i 0 < 65536) :
    Calls Yba.prog 8 #[.int .u16 (st : Int), .slice (some ⟨b, off, none⟩) len cap] w fun e w' => ∃ ds nx, e = .returned (.slice (some ⟨w.heap.size, 0, none⟩) ds.length (16 * len)) ∧ BRel w (16 * len) ds nx w' ∧ nx ≤ 400000 ∧ ds.length ≤ 16384 := by
  obtain ⟨i1, hi1, hy0, hy1, hy2⟩ := info_parts Yba.info21'
  go_enter Yba.func8, Yba.ntmps8
  go_wp2_with (at_make; refine wpList_make_own _ rfl _ (.tmp 13) 22 rfl w.heap.size 21 i1 (.int .i32 0) 1 Yba.underlying22 hi1 hy0 hy1 .i64 .i64 (16 * (len : Int)) (16 * len) rfl rfl ?m0 ?m1 ?m2 ?m3 ?m4)
  case m0 => omega
  case m1 => rw [hy2]; omega
  case m2 => unfold maxLen; omega
  case m3 => simp
  case m4 =>
    intro w1 hown1 hg1
    have S0 := brel_start w w1 st (16 * len) hown1 hg1
    clear hown1 hg1
    go_wp2
    go_loopw [5, 6, 19] (fun sv nv i wr => ∃ (k nx : Nat) (ds : List Nat), k ≤ len ∧ i = .int .i64 k ∧ sv = .slice (some ⟨w.heap.size, 0, none⟩) ds.length (16 * len) ∧ nv = .int .i32 (nx : Int) ∧ nx ≤ 65535 + 271 * k ∧ ds.length ≤ 16 * k ∧ BRel w (16 * len) ds nx wr)
      (fun _ _ i _ => len - (intOf i).toNat)
    case atStart => exact ⟨0, st, [], Nat.zero_le _, rfl, rfl, rfl, by omega, by simp, S0⟩
    case round =>
      obtain ⟨k, nx, ds, hk, rfl, rfl, rfl, hnx, hdl, S⟩ := hrel
      by_cases hlt : k < len
      · obtain ⟨hc, hz⟩ := hcell k hlt
        have hck : wr.cell? ⟨b, off + k, none⟩ = some (.int .u16 ((zs.getD k 0 : Nat) : Int)) := (S.bel.cell (p := ⟨b, off + k, none⟩) hb).trans hc
        obtain ⟨z, hze⟩ : ∃ z, z = zs.getD k 0 := ⟨_, rfl⟩
        rw [← hze] at hck hz
        have hand := u16_and15 z (by omega)
        have HCELL := show Hid _ from hcell
        clear hcell hze S0 hc
        go_wp2
        go_loopw [5, 6, 10] (fun sv nv i wr => ∃ (r : Nat) (ds' : List Nat), r ≤ z % 16 + 1 ∧ i = .int .i64 r ∧ sv = .slice (some ⟨w.heap.size, 0, none⟩) ds'.length (16 * len) ∧ nv = .int .i32 ((nx + z / 256 + r : Nat) : Int) ∧ ds'.length = ds.length + r ∧ BRel w (16 * len) ds' (nx + z / 256 + r) wr)
          (fun _ _ i _ => z % 16 + 1 - (intOf i).toNat)
        case atStart => exact ⟨0, ds, Nat.zero_le _, rfl, rfl, by go_num, rfl, S.up (by omega)⟩
        case round =>
          obtain ⟨r, ds', hr, rfl, rfl, rfl, hdl', S'⟩ := hrel
          clear S hck
          have HDL : Hid (ds'.length = ds.length + r) := hdl'
          have hdle : ds'.length ≤ 16 * k + r := by omega
          clear hdl'
          by_cases hrl : r < z % 16 + 1
          · have hroom : ds'.length + 1 ≤ 16 * len := by omega
            go_wp2_with (at_builtin; refine wpList_append_fits _ rfl (.tmp 37) (.tmp 39) 22 rfl w.heap.size 21 i1 1 Yba.underlying22 hi1 hy1 w.heap.size ds'.length (16 * len) (i32s ds') rfl (S'.own.alloc _) ⟨wr.heap.size, 0, none⟩ 1 1 [.int .i32 ((nx + z / 256 + r : Nat) : Int)] rfl rfl (cell_one_new _ _ _) (one_int _) hroom ?go)
            case go =>
              intro w2 hm2 hg2
              have S2 := S'.snoc hm2 hg2
              clear hm2 hg2 S'
              go_wp2
              go_roundw
              case rel => exact ⟨r + 1, ds' ++ [nx + z / 256 + r], by omega, by go_num, by simp, by go_num, by have := HDL.out; simp; omega, S2⟩
              case measure => simp [intOf]; omega
          · go_wp2
            go_roundw
            case rel => exact ⟨k + 1, nx + z / 256 + r, ds', by omega, by go_num, rfl, rfl, by omega, by omega, S'⟩
            case measure => simp [intOf]; omega
      · go_wp2
        go_ret
        exact ⟨ds, nx, rfl, S, by omega, by omega⟩

set_option maxRecDepth 100000 in
set_option maxHeartbeats 400000 in
theorem build_none (a0 : Option Addr) (cap st : Nat) (w : World) (hst : st < 65536) :
    Calls Yba.prog 8 #[.int .u16 (st : Int), .slice a0 0 cap] w fun e w' => ∃ ds nx, e = .returned (.slice (some ⟨w.heap.size, 0, none⟩) ds.length (16 * 0)) ∧ BRel w (16 * 0) ds nx w' ∧ nx ≤ 400000 ∧ ds.length ≤ 16384 := by
  obtain ⟨i1, hi1, hy0, hy1, hy2⟩ := info_parts Yba.info21'
  go_enter Yba.func8, Yba.ntmps8
  go_wp2_with (at_make; refine wpList_make_own _ rfl _ (.tmp 13) 22 rfl w.heap.size 21 i1 (.int .i32 0) 1 Yba.underlying22 hi1 hy0 hy1 .i64 .i64 0 0 rfl rfl ?m0 ?m1 ?m2 ?m3 ?m4)
  case m0 => rfl
  case m1 => rw [hy2]; omega
  case m2 => unfold maxLen; omega
  case m3 => simp
  case m4 =>
    intro w1 hown1 hg1
    have S0 := brel_start w w1 st 0 hown1 hg1
    clear hown1 hg1
    go_wp2
    go_loop [5, 6, 19] (fun sv nv i => sv = .slice (some ⟨w.heap.size, 0, none⟩) 0 0 ∧ i = .int .i64 0) (fun _ _ _ => 0)
    case atStart => exact ⟨rfl, rfl⟩
    case round =>
      obtain ⟨rfl, rfl⟩ := hrel
      go_wp2
      go_ret
      exact ⟨[], rfl, st, S0, by omega, by simp⟩

end Go.Proofs.Ybulkbtwy
