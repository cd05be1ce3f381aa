import Derived.Test.YbulkbtwyLst
import Derived.Test.YbulkbtwyCheck
import Derived.OpenShut
set_option linter.unusedVariables false
namespace Go.Proofs.Ybulkbtwy
open Go.RowKit

/-- What the check asks, of a set behind its appends. -/
theorem LSt.rd {wb : World} {kb : Nat} {ds : List Nat} {wr : World} {gd : Nat} (h : LSt wb kb ds ds.length wr) (hgd : gd < kb) (hkb : kb ≤ wb.heap.size)
    (hds : ∀ i, i < ds.length → wb.cell? ⟨gd, i, none⟩ = some (.int .i32 ((ds.getD i 0 : Nat) : Int))) (htop : ∀ d ∈ ds, d < 400000) (hlen : ds.length ≤ 16384) :
    ∃ cs cv sv, Rd wr kb gd cs ds cv sv ∧ ∀ c ∈ cs, c.ow = .pointer (some ⟨kb, 0, none⟩) := by
  obtain ⟨⟨M, low, hi, cv, sv, S, hp, how, hsh, hM⟩, hbel⟩ := h
  rw [List.take_of_length_le (Nat.le_refl _)] at hp
  refine ⟨low ++ hi, cv, sv, ⟨S.blk, owns_base S.chs (fun _ _ => Nat.zero_le _), owns_base S.bss (fun _ _ => Nat.zero_le _), ?_, ?_, ?_, hp, getD_lt htop (by omega), hlen⟩, fun c hc => (how c hc).1⟩
  · intro c hc
    rcases List.mem_append.1 hc with hc | hc
    · obtain ⟨_, lv, bv, hk, _⟩ := S.lows c hc
      exact ⟨lv, bv, hk⟩
    · obtain ⟨_, lv, bv, hk⟩ := S.his c hc
      exact ⟨lv, bv, hk.base0⟩
  · intro i hi
    exact (hbel.cell (p := ⟨gd, i, none⟩) hgd).trans (hds i hi)
  · have := hbel.size; omega

theorem i32s_at (ds : List Nat) (i : Nat) (hi : i < ds.length) : (i32s ds)[i]? = some (.int .i32 ((ds.getD i 0 : Nat) : Int)) := by simp [i32s, hi]

set_option maxRecDepth 100000 in
set_option maxHeartbeats 400000 in
/-- The check of a set that holds nothing. -/
theorem check_none (kb dc : Nat) (da ca sa : Option Addr) (cc sc : Nat) (ow : Option Addr) (ck : Bool) (w : World)
    (hblk : w.heap[kb]? = some (.cells #[.slice ca 0 cc, .slice sa 0 sc, .int .i64 0] 39 (0, 0))) :
    Calls Yba.prog 10 #[.pointer (some ⟨kb, 0, none⟩), .slice da 0 dc, .pointer ow, .bool ck] w fun e w' => e = .returned (.bool true) ∧ Below w.heap.size w w' := by
  obtain ⟨hc0, hc1, hc2, hfz⟩ := set_cells hblk
  clear hblk
  go_enter Yba.func10, Yba.ntmps10
  go_wp2
  go_quiet (fail)
  go_wp2
  go_loop [9, 10] (fun kv iv => kv = .int .i64 0 ∧ iv = .int .i64 0) (fun _ _ => 0)
  case atStart => exact ⟨rfl, rfl⟩
  case round =>
    obtain ⟨rfl, rfl⟩ := hrel
    go_wp2
    go_ret
    exact ⟨rfl, below_drewN (Below.refl _ _) _⟩

theorem hpp_some (ow : Addr) : ∀ w : World, (binOp .neq 42 (.pointer (some ow)) (.pointer (some ow))).run Yba.prog w = .ok (.bool false) w := by
  obtain ⟨j39, hj39⟩ := Yba.has39
  exact fun w => run_neq_ptr_same (P := Yba.prog) w ow Yba.underlying42 hj39

/-- THE CONTRACT OF check, with an owner. -/
theorem check_owner (kb gd dc : Nat) (ow : Option Addr) (hpp : ∀ w : World, (binOp .neq 42 (.pointer ow) (.pointer ow)).run Yba.prog w = .ok (.bool false) w) (cs : List Ck) (ds : List Nat) (cv sv : Value) (w : World)
    (r : Rd w kb gd cs ds cv sv) (hown : ∀ c ∈ cs, c.ow = .pointer ow) :
    Calls Yba.prog 10 #[.pointer (some ⟨kb, 0, none⟩), .slice (some ⟨gd, 0, none⟩) ds.length dc, .pointer ow, .bool true] w fun e w' => e = .returned (.bool true) ∧ Below w.heap.size w w' := by
  rcases Nat.eq_zero_or_pos cs.length with h0 | h0
  · have hcs : cs = [] := List.eq_nil_of_length_eq_zero h0
    subst hcs
    have hds : ds = [] := by have := r.pl.flat; simpa [flatC] using this.symm
    subst hds
    obtain ⟨ca, cc, rfl⟩ : ∃ a c, cv = .slice a 0 c := by
      rcases owns_form r.chs with ⟨h, _, _⟩ | ⟨g, c, h, _⟩
      · exact ⟨_, _, h⟩
      · exact ⟨_, _, h⟩
    obtain ⟨sa, sc, rfl⟩ : ∃ a c, sv = .slice a 0 c := by
      rcases owns_form r.bss with ⟨h, _, _⟩ | ⟨g, c, h, _⟩
      · exact ⟨_, _, h⟩
      · exact ⟨_, _, h⟩
    exact check_none kb dc _ ca sa cc sc ow true w r.blk
  · obtain ⟨gc, cc, rfl⟩ : ∃ g c, cv = .slice (some ⟨g, 0, none⟩) cs.length c := by
      rcases owns_form r.chs with ⟨_, h', _⟩ | ⟨g, c, h, _⟩
      · omega
      · exact ⟨_, _, h⟩
    obtain ⟨gs, sc, rfl⟩ : ∃ g c, sv = .slice (some ⟨g, 0, none⟩) cs.length c := by
      rcases owns_form r.bss with ⟨_, h', _⟩ | ⟨g, c, h, _⟩
      · omega
      · exact ⟨_, _, h⟩
    exact check_some kb gd dc gc gs cc sc cs.length ds.length ow hpp cs ds w r rfl rfl h0 hown

def BuildPost (w : World) (cap : Nat) (e : Ending) (w' : World) : Prop := ∃ ds nx, e = .returned (.slice (some ⟨w.heap.size, 0, none⟩) ds.length cap) ∧ BRel w cap ds nx w' ∧ nx ≤ 400000 ∧ ds.length ≤ 16384

set_option maxRecDepth 100000 in
set_option maxHeartbeats 1000000 in
theorem layout_walk (a0 : Option Addr) (len cap bcap st : Nat) (w : World) (hlen : len ≤ 1024)
    (hbuild : Hid (Calls Yba.prog 8 #[.int .u16 (st : Int), .slice a0 len cap] w (BuildPost w bcap))) :
    Calls Yba.prog 5 #[.int .u16 (st : Int), .slice a0 len cap] w fun e w' => e = .returned (.bool true) ∧ Below w.heap.size w w' := by
  have hdec : decide ((1024 : Int) < (len : Int)) = false := by simp; omega
  go_enter Yba.func5, Yba.ntmps5
  go_wp2_with fail
  refine hbuild.out.mono ?_
  rintro e w1 ⟨ds, nx, rfl, hbr, hnx, hdl⟩
  clear hbuild
  have hL0 := lst_start w1 ds
  have hinc := hbr.inc.inc
  have htop : ∀ d ∈ ds, d < 400000 := fun d hd => by have := hbr.inc.top d hd; omega
  have hcell : ∀ i, i < ds.length → w1.cell? ⟨w.heap.size, i, none⟩ = some (.int .i32 ((ds.getD i 0 : Nat) : Int)) := fun i hi => by
    rw [hbr.own.cellAt i (by omega)]; exact i32s_at ds i hi
  have HINC := show Hid (List.Pairwise (· < ·) ds) from hinc
  have HTOP := show Hid (∀ d ∈ ds, d < 400000) from htop
  have HCELL := show Hid (∀ i, i < ds.length → w1.cell? ⟨w.heap.size, i, none⟩ = some (.int .i32 ((ds.getD i 0 : Nat) : Int))) from hcell
  have hsz := hbr.siz
  have hbel := hbr.bel
  clear hinc htop hcell hbr
  go_wp2_with fail
  go_loopw [17] (fun i wr => ∃ m : Nat, m ≤ ds.length ∧ i = .int .i64 m ∧ LSt w1 w1.heap.size ds m wr) (fun i _ => ds.length - (intOf i).toNat)
  case atStart => exact ⟨0, Nat.zero_le _, rfl, hL0⟩
  case round =>
    obtain ⟨m, hm, rfl, L⟩ := hrel
    clear hL0
    by_cases hlt : m < ds.length
    · have hck : wr.cell? ⟨w.heap.size, m, none⟩ = some (.int .i32 ((ds.getD m 0 : Nat) : Int)) := (L.bel.cell (p := ⟨w.heap.size, m, none⟩) hsz).trans (HCELL.out m hlt)
      have HST : Hid (Calls Yba.prog 9 #[.pointer (some ⟨w1.heap.size, 0, none⟩), .int .i32 ((ds.getD m 0 : Nat) : Int)] wr fun e w' => e = .returned (.tuple #[]) ∧ LSt w1 w1.heap.size ds (m + 1) w') := L.step (Nat.le_refl _) hlt HINC.out HTOP.out hdl
      obtain ⟨d, hde⟩ : ∃ d, d = ds.getD m 0 := ⟨_, rfl⟩
      rw [← hde] at hck HST
      clear hde L
      go_wp2_with fail
      refine HST.out.mono ?_
      rintro e w' ⟨rfl, L'⟩
      clear HST hck
      go_wp2
      go_roundw
      case rel => exact ⟨m + 1, by omega, by go_num, L'⟩
      case measure => simp [intOf]; omega
    · obtain rfl : m = ds.length := by omega
      obtain ⟨cs, cv, sv, r, how⟩ := L.rd hsz (Nat.le_refl _) HCELL.out HTOP.out hdl
      have hb2 : Below w.heap.size w wr := hbel.trans (L.bel.mono (by omega))
      clear L
      go_wp2_with fail
      refine (check_owner w1.heap.size w.heap.size bcap (some ⟨w1.heap.size, 0, none⟩) (hpp_some _) cs ds cv sv _ r how).mono ?_
      rintro e w' ⟨rfl, hb3⟩
      clear r how
      go_wp2
      go_ret
      exact ⟨rfl, hb2.trans (hb3.mono hb2.size)⟩

theorem u16_form {a : Int} (h : (Lit.int .u16 a).wf = true) : ∃ st : Nat, a = (st : Int) ∧ st < 65536 := by
  have hb := bounds_u16 h
  exact ⟨a.toNat, by omega, by omega⟩

/-- THE CONTRACT OF build. -/
theorem build_any (st : Nat) (a0 : Option Addr) (len cap : Nat) (zs : List Int) (w : World) (hst : st < 65536) (hlen : len ≤ 1024)
    (hrow : len = 0 ∨ ∃ x, a0 = some x ∧ len ≤ zs.length ∧ (∀ i, i < zs.length → w.cell? (x.add i) = some (.int .u16 (zs.getD i 0))) ∧ ∀ n ∈ zs, (Lit.int .u16 n).wf = true) :
    Hid (Calls Yba.prog 8 #[.int .u16 (st : Int), .slice a0 len cap] w (BuildPost w (16 * len))) := by
  by_cases h0 : len = 0
  · subst h0
    exact build_none a0 cap st w hst
  · rcases hrow with h | ⟨x, rfl, h1, h2, h3⟩
    · exact absurd h h0
    · obtain ⟨b, off, rfl, hc⟩ := ints_at h2 (by omega)
      refine build_some b off len cap st (zs.map Int.toNat) w (World.block_lt_of_cell? w ⟨b, off + 0, none⟩ (hc 0 (by omega))) hlen hst (fun i hi => ?_)
      have hi2 : i < zs.length := by omega
      have hb := bounds_u16 (h3 (zs.getD i 0) (by simp [hi2]))
      have e : (zs.map Int.toNat).getD i 0 = (zs.getD i 0).toNat := by simp [hi2]
      rw [e]
      refine ⟨?_, by omega⟩
      rw [hc i hi2, Int.toNat_of_nonneg (by omega)]

theorem layout_long (a0 : Option Addr) (len cap st : Nat) (w : World) (h : 1024 < len) : Calls Yba.prog 5 #[.int .u16 (st : Int), .slice a0 len cap] w fun e w' => e = .returned (.bool true) ∧ Below w.heap.size w w' := by
  have hd : decide ((1024 : Int) < (len : Int)) = true := by simp; omega
  go_enter Yba.func5, Yba.ntmps5
  go_wp2
  go_ret
  exact ⟨rfl, Below.refl _ _⟩

end Go.Proofs.Ybulkbtwy
