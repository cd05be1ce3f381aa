import Derived.Test.YbulkbtwyKst
import Derived.Test.YbulkbtwyCheckF
set_option linter.unusedVariables false
namespace Go.Proofs.Ybulkbtwy
open Go.RowKit

theorem ptrs_nobody (cs : List Ck) : ptrs (cs.map Ck.nobody) = ptrs cs := by simp [ptrs, Ck.nobody]
theorem bases_nobody (cs : List Ck) : bases (cs.map Ck.nobody) = bases cs := by simp [bases, Ck.nobody]

/-- The state behind 't := s.copy()'. -/
theorem kst_start {wb : World} {kb : Nat} {ds : List Nat} {p : Nat} {wr : World} {gd : Nat} (h : LSt wb kb ds p wr) (hkb : kb ≤ wb.heap.size) (hgd : gd < kb) (hp : p ≤ ds.length)
    (hds : ∀ i, i < ds.length → wb.cell? ⟨gd, i, none⟩ = some (.int .i32 ((ds.getD i 0 : Nat) : Int))) (htop : ∀ d ∈ ds, d < 400000) (hlen : ds.length ≤ 16384) :
    Calls Yba.prog 11 #[.pointer (some ⟨kb, 0, none⟩)] wr fun e w3 => ∃ N a1 c1 a2 c2 csT, e = .returned (.agg #[.slice a1 N c1, .slice a2 N c2, .int .i64 (p : Int)]) ∧ (∀ c ∈ csT, c.ow = .pointer none) ∧ wr.heap.size ≤ w3.heap.size ∧
      KSt wb kb w3.heap.size gd (w3.heap.size + 1) csT (ds.take p) (.slice a1 N c1) (.slice a2 N c2) ds p (w3.alloc (.cells #[.slice a1 N c1, .slice a2 N c2, .int .i64 (p : Int)] 39)) := by
  obtain ⟨⟨M, low, hi, cv, sv, S, hpl, how, hsh, hM⟩, hbel⟩ := h
  have hcnt := hpl.count
  rw [List.length_take] at hcnt
  refine (copy_any S (by omega) (by omega) hpl.inc).mono fun e w3 hh => ?_
  obtain ⟨a1, c1, a2, c2, he, h47, h21, hlow, hch⟩ := hh
  have hk := lt_of_blk S.blk
  have hs := hch.size
  have hckw : ∀ c ∈ low ++ hi, ∃ lv bv, CkAt wr 0 c lv bv := fun c hc => by
    rcases List.mem_append.1 hc with hc | hc
    · obtain ⟨_, lv, bv, hk, _⟩ := S.lows c hc
      exact ⟨lv, bv, hk⟩
    · obtain ⟨_, lv, bv, hk⟩ := S.his c hc
      exact ⟨lv, bv, hk.base0⟩
  have hnot : ∀ {T : TypeId} {cur : Array Value} {b : Nat}, wr.heap[b]? = some (.cells cur T (0, 0)) → T ≠ 51 → ¬ ∃ c ∈ low ++ hi, b = c.p := fun {T cur b} hb hT h => by
    obtain ⟨c, hc, rfl⟩ := h
    obtain ⟨lv, bv, hk⟩ := hckw c hc
    rw [hk.1] at hb
    simp only [Option.some.injEq, Obj.cells.injEq] at hb
    exact hT hb.2.1.symm
  have hal : Chg (fun _ => False) w3 (w3.alloc (.cells #[.slice a1 (low ++ hi).length c1, .slice a2 (low ++ hi).length c2, .int .i64 (p : Int)] 39)) := (Chg.refl _ w3).alloc _
  have hall : Chg (fun b => ∃ c ∈ low ++ hi, b = c.p) wr (w3.alloc (.cells #[.slice a1 (low ++ hi).length c1, .slice a2 (low ++ hi).length c2, .int .i64 (p : Int)] 39)) := hch.either hal (fun _ _ h => h) (fun _ _ h => h.elim)
  have hb4 : (w3.alloc (.cells #[.slice a1 (low ++ hi).length c1, .slice a2 (low ++ hi).length c2, .int .i64 (p : Int)] 39)).heap[kb]? = _ := (hall.block kb hk (hnot S.blk (by decide))).trans S.blk
  have hchs := hall.owns S.chs (fun k hk' => by obtain ⟨cur, e⟩ := owns_blk S.chs hk'; exact hnot e (by decide))
  have hbss := hall.owns S.bss (fun k hk' => by obtain ⟨cur, e⟩ := owns_blk S.bss hk'; exact hnot e (by decide))
  have hlow4 : ∀ c ∈ (low ++ hi).map Ck.nobody, CkLow (w3.alloc (.cells #[.slice a1 (low ++ hi).length c1, .slice a2 (low ++ hi).length c2, .int .i64 (p : Int)] 39)) (w3.heap.size + 1) c := fun c hc => by
    obtain ⟨x, hx, rfl⟩ := List.mem_map.1 hc
    obtain ⟨j, hj, rfl⟩ := List.getElem_of_mem hx
    exact ((hlow j hj).mono (by omega)).keep hal (fun k _ h => h.elim)
  have hnob : ∀ c ∈ (low ++ hi).map Ck.nobody, c.ow = .pointer none := fun c hc => by
    obtain ⟨x, hx, rfl⟩ := List.mem_map.1 hc
    rfl
  have htake : (ds.take p).length = p := by rw [List.length_take]; omega
  refine ⟨(low ++ hi).length, a1, c1, a2, c2, (low ++ hi).map Ck.nobody, he, hnob, hs, ⟨w3.heap.size + 1, (low ++ hi).map Ck.nobody, [], cv, sv, ⟨hb4, ?_, ?_, hlow4, by simp, by simp, by simp; omega⟩, ?_, Or.inl ⟨rfl, hnob⟩, Nat.le_refl _, by omega, ?_, ?_⟩, ?_, ?_⟩
  · rw [List.append_nil, ptrs_nobody, List.length_map]; exact hchs
  · rw [List.append_nil, bases_nobody, List.length_map]; exact hbss
  · rw [List.append_nil]; exact hpl.nobody
  · intro k hk1 hk2
    have := (owns_lt S.chs k hk1).2
    have := (owns_lt h47 k hk2).1
    omega
  · intro k hk1 hk2
    have := (owns_lt S.bss k hk1).2
    have := (owns_lt h21 k hk2).1
    omega
  · refine ⟨⟨?_, ?_, ?_, fun c hc => ?_, fun i hi => ?_, by simp; omega, hpl.nobody, fun i => ?_, by omega⟩, hlow4, by omega, fun k hk' => ?_, fun k hk' => ?_, by omega⟩
    · rw [htake]; exact heap_alloc_new w3 _
    · rw [List.length_map, ptrs_nobody]; exact hal.owns (owns_base h47 (fun _ _ => Nat.zero_le _)) (fun _ _ h => h)
    · rw [List.length_map, bases_nobody]; exact hal.owns (owns_base h21 (fun _ _ => Nat.zero_le _)) (fun _ _ h => h)
    · obtain ⟨_, lv, bv, hk, _⟩ := hlow4 c hc
      exact ⟨lv, bv, hk⟩
    · have hi2 : i < p := by omega
      have e : (ds.take p).getD i 0 = ds.getD i 0 := by simp [hi2]
      rw [e]
      refine Eq.trans ?_ (hds i (by omega))
      refine (hall.cell (p := ⟨gd, i, none⟩) (by show gd < wr.heap.size; omega) (fun h => ?_)).trans (hbel.cell (p := ⟨gd, i, none⟩) hgd)
      obtain ⟨c, hc, e⟩ := h
      have := (how c hc).2
      have e' : gd = c.p := e
      omega
    · exact getD_lt (fun d hd => htop d (List.mem_of_mem_take hd)) (by omega) i
    · have := (owns_lt h47 k hk').2; omega
    · have := (owns_lt h21 k hk').2; omega
  · exact hbel.trans (hall.below (by omega) (fun k h => by
      obtain ⟨c, hc, e⟩ := h
      have := (how c hc).2
      omega))

/-- What the last check asks. -/
theorem KSt.rd {wb : World} {kb kbt gd M0 : Nat} {csT : List Ck} {dsT : List Nat} {tcv tsv : Value} {ds : List Nat} {wr : World} (h : KSt wb kb kbt gd M0 csT dsT tcv tsv ds ds.length wr) (hgd : gd < kb) (hkb : kb ≤ wb.heap.size)
    (hds : ∀ i, i < ds.length → wb.cell? ⟨gd, i, none⟩ = some (.int .i32 ((ds.getD i 0 : Nat) : Int))) (htop : ∀ d ∈ ds, d < 400000) (hlen : ds.length ≤ 16384) : ∃ cs cv sv, Rd wr kb gd cs ds cv sv := by
  obtain ⟨⟨M, low, hi, cv, sv, S, hp, _⟩, _, hbel⟩ := h
  rw [List.take_of_length_le (Nat.le_refl _)] at hp
  refine ⟨low ++ hi, cv, sv, ⟨S.blk, owns_base S.chs (fun _ _ => Nat.zero_le _), owns_base S.bss (fun _ _ => Nat.zero_le _), ?_, ?_, ?_, hp, getD_lt htop (by omega), hlen⟩⟩
  · intro c hc
    rcases List.mem_append.1 hc with hc | hc
    · obtain ⟨_, lv, bv, hk, _⟩ := S.lows c hc
      exact ⟨lv, bv, hk⟩
    · obtain ⟨_, lv, bv, hk⟩ := S.his c hc
      exact ⟨lv, bv, hk.base0⟩
  · intro i hi
    exact (hbel.cell (p := ⟨gd, i, none⟩) hgd).trans (hds i hi)
  · have := hbel.size; omega

theorem hpp_none : ∀ w : World, (binOp .neq 42 (.pointer none) (.pointer none)).run Yba.prog w = .ok (.bool false) w := by
  intro w
  have h : ∀ d : Nat, (Op.equalIn (d + 1) 42 (.pointer none) (.pointer none)).run Yba.prog w = .ok true w := fun d => by
    simp [Op.equalIn, run_underlying Yba.underlying42]
  simp only [binOp]
  simp [Op.equal, Op.maxDepth, h 9999]

/-- THE CONTRACT OF check, without an owner. -/
theorem check_free (kb gd dc : Nat) (ow : Option Addr) (cs : List Ck) (ds : List Nat) (cv sv : Value) (w : World) (r : Rd w kb gd cs ds cv sv) :
    Calls Yba.prog 10 #[.pointer (some ⟨kb, 0, none⟩), .slice (some ⟨gd, 0, none⟩) ds.length dc, .pointer ow, .bool false] w fun e w' => e = .returned (.bool true) ∧ Below w.heap.size w w' := by
  rcases Nat.eq_zero_or_pos cs.length with h0 | h0
  · have hcs : cs = [] := List.eq_nil_of_length_eq_zero h0
    subst hcs
    have hds : ds = [] := by have := r.pl.flat; simpa [flatC] using this.symm
    subst hds
    obtain ⟨ca, cc, rfl⟩ : ∃ a c, cv = .slice a 0 c := by
      rcases owns_form r.chs with ⟨h, _, _⟩ | ⟨g, c, h, _⟩
      · exact ⟨_, _, h⟩
      · exact ⟨_, _, h⟩
    obtain ⟨sa, sc, rfl⟩ : ∃ a c, sv = .slice a 0 c := by
      rcases owns_form r.bss with ⟨h, _, _⟩ | ⟨g, c, h, _⟩
      · exact ⟨_, _, h⟩
      · exact ⟨_, _, h⟩
    exact check_none kb dc _ ca sa cc sc ow false w r.blk
  · obtain ⟨gc, cc, rfl⟩ : ∃ g c, cv = .slice (some ⟨g, 0, none⟩) cs.length c := by
      rcases owns_form r.chs with ⟨_, h', _⟩ | ⟨g, c, h, _⟩
      · omega
      · exact ⟨_, _, h⟩
    obtain ⟨gs, sc, rfl⟩ : ∃ g c, sv = .slice (some ⟨g, 0, none⟩) cs.length c := by
      rcases owns_form r.bss with ⟨_, h', _⟩ | ⟨g, c, h, _⟩
      · omega
      · exact ⟨_, _, h⟩
    exact check_some_f kb gd dc gc gs cc sc cs.length ds.length ow cs ds w r rfl rfl h0

set_option maxRecDepth 100000 in
set_option maxHeartbeats 1000000 in
theorem kept_walk (a0 : Option Addr) (len cap bcap st sp : Nat) (w : World) (hlen : len ≤ 1024) (hsp : sp < 65536) (hbc : bcap ≤ 16384)
    (hbuild : Hid (Calls Yba.prog 8 #[.int .u16 (st : Int), .slice a0 len cap] w (BuildPost w bcap))) :
    Calls Yba.prog 6 #[.int .u16 (st : Int), .slice a0 len cap, .int .u16 (sp : Int)] w fun e w' => e = .returned (.bool true) ∧ Below w.heap.size w w' := by
  have hdec : decide ((1024 : Int) < (len : Int)) = false := by simp; omega
  go_enter Yba.func6, Yba.ntmps6
  go_wp2_with fail
  refine hbuild.out.mono ?_
  rintro e w1 ⟨ds, nx, rfl, hbr, hnx, hdl⟩
  clear hbuild
  have hL0 := lst_start w1 ds
  have hinc := hbr.inc.inc
  have htop : ∀ d ∈ ds, d < 400000 := fun d hd => by have := hbr.inc.top d hd; omega
  have hcell : ∀ i, i < ds.length → w1.cell? ⟨w.heap.size, i, none⟩ = some (.int .i32 ((ds.getD i 0 : Nat) : Int)) := fun i hi => by
    rw [hbr.own.cellAt i (by omega)]; exact i32s_at ds i hi
  have hdc : ds.length ≤ bcap := by
    rcases owns_form hbr.own with ⟨h, _, _⟩ | ⟨g, c, h, _, _, h5, _⟩
    · cases h
    · injection h with _ _ h7
      omega
  have HINC := show Hid (List.Pairwise (· < ·) ds) from hinc
  have HTOP := show Hid (∀ d ∈ ds, d < 400000) from htop
  have HCELL := show Hid (∀ i, i < ds.length → w1.cell? ⟨w.heap.size, i, none⟩ = some (.int .i32 ((ds.getD i 0 : Nat) : Int))) from hcell
  have hsz := hbr.siz
  have hbel := hbr.bel
  obtain ⟨p, hpd⟩ : ∃ p, p = sp % (ds.length + 1) := ⟨_, rfl⟩
  have hpe : (sp : Int) % ((ds.length : Int) + 1) = (p : Int) := by rw [hpd, Int.natCast_emod]; rfl
  have hpl : p ≤ ds.length := by rw [hpd]; exact Nat.lt_succ_iff.1 (Nat.mod_lt sp (Nat.succ_pos ds.length))
  clear hinc htop hcell hbr hpd
  go_wp2_with fail
  simp only [hpe]
  clear hpe
  go_loopw [31] (fun i wr => ∃ m : Nat, m ≤ p ∧ i = .int .i64 m ∧ LSt w1 w1.heap.size ds m wr) (fun i _ => p - (intOf i).toNat)
  case atStart => exact ⟨0, Nat.zero_le _, rfl, hL0⟩
  case round =>
    obtain ⟨m, hm, rfl, L⟩ := hrel
    clear hL0
    by_cases hlt : m < p
    · have hck : wr.cell? ⟨w.heap.size, m, none⟩ = some (.int .i32 ((ds.getD m 0 : Nat) : Int)) := (L.bel.cell (p := ⟨w.heap.size, m, none⟩) hsz).trans (HCELL.out m (by omega))
      have HST : Hid (Calls Yba.prog 9 #[.pointer (some ⟨w1.heap.size, 0, none⟩), .int .i32 ((ds.getD m 0 : Nat) : Int)] wr fun e w' => e = .returned (.tuple #[]) ∧ LSt w1 w1.heap.size ds (m + 1) w') := L.step (Nat.le_refl _) (by omega) HINC.out HTOP.out hdl
      obtain ⟨d, hde⟩ : ∃ d, d = ds.getD m 0 := ⟨_, rfl⟩
      rw [← hde] at hck HST
      clear hde L
      go_wp2_with fail
      refine HST.out.mono ?_
      rintro e w' ⟨rfl, L'⟩
      clear HST hck
      go_wp2
      go_roundw
      case rel => exact ⟨m + 1, by omega, by go_num, L'⟩
      case measure => simp [intOf]; omega
    · obtain rfl : m = p := by omega
      have hbw : w1.heap.size < wr.heap.size := by
        obtain ⟨⟨M, low, hi, cv, sv, S, _⟩, _⟩ := L
        exact lt_of_blk S.blk
      have HL := show Hid (LSt w1 w1.heap.size ds m wr) from L
      clear L
      go_wp2_with fail
      refine (kst_start HL.out (Nat.le_refl _) hsz hpl HCELL.out HTOP.out hdl).mono ?_
      rintro e w3 ⟨N, a1, c1, a2, c2, csT, rfl, hnob, hsz3, K0⟩
      have hkt : w3.heap.size ≠ w1.heap.size := by omega
      have HNOB := show Hid (∀ c ∈ csT, c.ow = .pointer none) from hnob
      clear hnob HL
      by_cases hcp : bcap = m
      · have hcp2 : m = bcap := hcp.symm
        subst hcp2
        clear hcp
        go_wp2_with fail
        go_loopw [43] (fun i wx => ∃ q : Nat, q ≤ ds.length - m ∧ i = .int .i64 q ∧ KSt w1 w1.heap.size w3.heap.size w.heap.size (w3.heap.size + 1) csT (ds.take m) (.slice a1 N c1) (.slice a2 N c2) ds (m + q) wx) (fun i _ => ds.length - m - (intOf i).toNat)
        case atStart => exact ⟨0, Nat.zero_le _, rfl, K0⟩
        case round =>
          obtain ⟨q, hq, rfl, KK⟩ := hrel
          clear K0
          by_cases hql : q < ds.length - m
          · exfalso
            omega
          · have hmq : m + q = ds.length := by omega
            rw [hmq] at KK
            obtain ⟨cs, cv, sv, r⟩ := KK.rd hsz (Nat.le_refl _) HCELL.out HTOP.out hdl
            have hb2 : Below w.heap.size w wr := hbel.trans (KK.bel.mono (by omega))
            have HT := show Hid (Rd wr w3.heap.size w.heap.size csT (ds.take m) (.slice a1 N c1) (.slice a2 N c2)) from KK.t.rd
            have HRS := show Hid (Rd wr w1.heap.size w.heap.size cs ds cv sv) from r
            clear KK r hmq
            go_wp2_with fail
            have hC1 := check_owner w3.heap.size w.heap.size m none hpp_none csT (ds.take m) _ _ wr HT.out HNOB.out
            rw [List.length_take, Nat.min_eq_left hpl] at hC1
            refine hC1.mono ?_
            rintro e w5 ⟨rfl, hb5⟩
            have HR5 := show Hid (Rd w5 w1.heap.size w.heap.size cs ds cv sv) from HRS.out.below hb5
            clear HT HRS hC1
            go_wp2_with fail
            refine (check_free w1.heap.size w.heap.size m none cs ds cv sv w5 HR5.out).mono ?_
            rintro e w6 ⟨rfl, hb6⟩
            clear HR5
            go_wp2
            go_ret
            have hb25 := hb2.trans (hb5.mono hb2.size)
            exact ⟨rfl, hb25.trans (hb6.mono hb25.size)⟩
      · go_wp2_with fail
        go_loopw [43] (fun i wx => ∃ q : Nat, q ≤ ds.length - m ∧ i = .int .i64 q ∧ KSt w1 w1.heap.size w3.heap.size w.heap.size (w3.heap.size + 1) csT (ds.take m) (.slice a1 N c1) (.slice a2 N c2) ds (m + q) wx) (fun i _ => ds.length - m - (intOf i).toNat)
        case atStart => exact ⟨0, Nat.zero_le _, rfl, K0⟩
        case round =>
          obtain ⟨q, hq, rfl, KK⟩ := hrel
          clear K0
          by_cases hql : q < ds.length - m
          · have hck : wr.cell? ⟨w.heap.size, m + q, none⟩ = some (.int .i32 ((ds.getD (m + q) 0 : Nat) : Int)) := (KK.bel.cell (p := ⟨w.heap.size, m + q, none⟩) hsz).trans (HCELL.out (m + q) (by omega))
            have HST : Hid (Calls Yba.prog 9 #[.pointer (some ⟨w1.heap.size, 0, none⟩), .int .i32 ((ds.getD (m + q) 0 : Nat) : Int)] wr fun e w' => e = .returned (.tuple #[]) ∧ KSt w1 w1.heap.size w3.heap.size w.heap.size (w3.heap.size + 1) csT (ds.take m) (.slice a1 N c1) (.slice a2 N c2) ds (m + q + 1) w') := KK.step (Nat.le_refl _) hkt hsz (by omega) HINC.out HTOP.out hdl
            obtain ⟨d, hde⟩ : ∃ d, d = ds.getD (m + q) 0 := ⟨_, rfl⟩
            rw [← hde] at hck HST
            clear hde KK
            go_wp2_with fail
            refine HST.out.mono ?_
            rintro e w' ⟨rfl, K'⟩
            clear HST hck
            go_wp2
            go_roundw
            case rel => exact ⟨q + 1, by omega, by go_num, K'⟩
            case measure => simp [intOf]; omega
          · have hmq : m + q = ds.length := by omega
            rw [hmq] at KK
            obtain ⟨cs, cv, sv, r⟩ := KK.rd hsz (Nat.le_refl _) HCELL.out HTOP.out hdl
            have hb2 : Below w.heap.size w wr := hbel.trans (KK.bel.mono (by omega))
            have HT := show Hid (Rd wr w3.heap.size w.heap.size csT (ds.take m) (.slice a1 N c1) (.slice a2 N c2)) from KK.t.rd
            have HRS := show Hid (Rd wr w1.heap.size w.heap.size cs ds cv sv) from r
            clear KK r hmq
            go_wp2_with fail
            have hC1 := check_owner w3.heap.size w.heap.size bcap none hpp_none csT (ds.take m) _ _ wr HT.out HNOB.out
            rw [List.length_take, Nat.min_eq_left hpl] at hC1
            refine hC1.mono ?_
            rintro e w5 ⟨rfl, hb5⟩
            have HR5 := show Hid (Rd w5 w1.heap.size w.heap.size cs ds cv sv) from HRS.out.below hb5
            clear HT HRS hC1
            go_wp2_with fail
            refine (check_free w1.heap.size w.heap.size bcap none cs ds cv sv w5 HR5.out).mono ?_
            rintro e w6 ⟨rfl, hb6⟩
            clear HR5
            go_wp2
            go_ret
            have hb25 := hb2.trans (hb5.mono hb2.size)
            exact ⟨rfl, hb25.trans (hb6.mono hb25.size)⟩

theorem kept_long (a0 : Option Addr) (len cap st : Nat) (sp : Int) (w : World) (h : 1024 < len) : Calls Yba.prog 6 #[.int .u16 (st : Int), .slice a0 len cap, .int .u16 sp] w fun e w' => e = .returned (.bool true) ∧ Below w.heap.size w w' := by
  have hd : decide ((1024 : Int) < (len : Int)) = true := by simp; omega
  go_enter Yba.func6, Yba.ntmps6
  go_wp2
  go_ret
  exact ⟨rfl, Below.refl _ _⟩

end Go.Proofs.Ybulkbtwy
