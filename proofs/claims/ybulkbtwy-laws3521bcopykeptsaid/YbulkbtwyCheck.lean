import Derived.Test.YbulkbtwyBuild
import Derived.Test.YbulkbtwySeg
set_option linter.unusedVariables false
namespace Go.Proofs.Ybulkbtwy
open Go.RowKit

/-- What the check reads. -/
structure Rd (w : World) (kb gd : Nat) (cs : List Ck) (ds : List Nat) (cv sv : Value) : Prop where
  blk : w.heap[kb]? = some (.cells #[cv, sv, .int .i64 (ds.length : Int)] 39 (0, 0))
  chs : w.ownsRow 0 47 1 cv cs.length (ptrs cs)
  bss : w.ownsRow 0 21 1 sv cs.length (bases cs)
  cks : ∀ c ∈ cs, ∃ lv bv, CkAt w 0 c lv bv
  dss : ∀ i, i < ds.length → w.cell? ⟨gd, i, none⟩ = some (.int .i32 ((ds.getD i 0 : Nat) : Int))
  gdl : gd < w.heap.size
  pl : Plain cs ds
  top : ∀ i, ds.getD i 0 < 400000
  len : ds.length ≤ 16384

theorem blk_below {w wr : World} (h : Below w.heap.size w wr) {k : Nat} {o : Obj} (hk : w.heap[k]? = some o) : wr.heap[k]? = some o := (h.block k (lt_of_blk hk)).trans hk
theorem owns_below {w wr : World} (h : Below w.heap.size w wr) {B e size n : Nat} {v : Value} {xs : List Value} (ho : w.ownsRow B e size v n xs) : wr.ownsRow B e size v n xs :=
  (Chg.ofBelow h).owns ho (fun k hk => by have := (owns_lt ho k hk).2; omega)

theorem Rd.below {w wr : World} {kb gd : Nat} {cs : List Ck} {ds : List Nat} {cv sv : Value} (r : Rd w kb gd cs ds cv sv) (h : Below w.heap.size w wr) : Rd wr kb gd cs ds cv sv := by
  refine ⟨blk_below h r.blk, owns_below h r.chs, owns_below h r.bss, fun c hc => ?_, fun i hi => (h.cell (p := ⟨gd, i, none⟩) r.gdl).trans (r.dss i hi), by have := h.size; have := r.gdl; omega, r.pl, r.top, r.len⟩
  obtain ⟨lv, bv, hk⟩ := r.cks c hc
  refine ⟨lv, bv, blk_below h hk.1, ?_⟩
  rcases hk.2 with ⟨a, b, d⟩ | ⟨a, b, d⟩
  · exact Or.inl ⟨a, b, owns_below h d⟩
  · exact Or.inr ⟨a, b, owns_below h d⟩

theorem Rd.ptr {w : World} {kb gd gc cc N : Nat} {cs : List Ck} {ds : List Nat} {sv : Value} (r : Rd w kb gd cs ds (.slice (some ⟨gc, 0, none⟩) N cc) sv) (hN : cs.length = N) (k : Nat) (hk : k < cs.length) :
    w.cell? ⟨gc, k, none⟩ = some (.pointer (some ⟨cs[k].p, 0, none⟩)) := by
  have h := r.chs
  subst hN
  rw [h.cellAt k (by omega)]
  simp [ptrs, hk]
theorem Rd.base {w : World} {kb gd gs sc N : Nat} {cs : List Ck} {ds : List Nat} {cv : Value} (r : Rd w kb gd cs ds cv (.slice (some ⟨gs, 0, none⟩) N sc)) (hN : cs.length = N) (k : Nat) (hk : k < cs.length) :
    w.cell? ⟨gs, k, none⟩ = some (.int .i32 (cs[k].base : Int)) := by
  have h := r.bss
  subst hN
  rw [h.cellAt k (by omega)]
  simp [bases, hk]

theorem CkAt.below {w wr : World} {c : Ck} {lv bv : Value} (hk : CkAt w 0 c lv bv) (h : Below w.heap.size w wr) : CkAt wr 0 c lv bv := by
  refine ⟨blk_below h hk.1, ?_⟩
  rcases hk.2 with ⟨a, b, d⟩ | ⟨a, b, d⟩
  · exact Or.inl ⟨a, b, owns_below h d⟩
  · exact Or.inr ⟨a, b, owns_below h d⟩

/-- The array of words that the check lays for itself. -/
def WantAt (wx : World) (h : Nat) (ws : List Int) : Prop := wx.heap[h]? = some (.cells (u64s ws).toArray 53 (0, 0))

theorem WantAt.cell {wx : World} {h : Nat} {ws : List Int} (hw : WantAt wx h ws) (q : Nat) (hq : q < ws.length) : wx.cell? ⟨h, q, none⟩ = some (.int .u64 (ws.getD q 0)) := by
  rw [cell_of_row wx h q _ _ _ hw]
  simp [u64s, hq]
theorem WantAt.frozen {wx : World} {h : Nat} {ws : List Int} (hw : WantAt wx h ws) (q : Nat) : wx.frozen? ⟨h, q, none⟩ = false := frozen_of_row wx h q _ _ hw
theorem WantAt.set {wx : World} {h : Nat} {ws : List Int} (hw : WantAt wx h ws) (o : Nat) :
    WantAt (wx.setCell ⟨h, o / 64, none⟩ (.int .u64 (bits .or .u64 (ws[o / 64]?.getD 0) (IntKind.u64.wrap (2 ^ (o % 64)))))) h (setBit ws o) := by
  unfold WantAt
  rw [heap_setCell_same wx h (o / 64) _ 53 _ hw, u64s_setBit]
  simp
theorem want_start (w : World) (arr : Array Value) (n : Nat) (h : arr = (u64s (words [])).toArray) (offs : List Nat) : WantAt ((w.alloc (.cells arr 53)).drewN n) w.heap.size (words (offs.take 0)) := by
  subst h
  exact heap_alloc_new w _
theorem WantAt.draws {wx : World} {h : Nat} {ws : List Int} (hw : WantAt wx h ws) (n : Nat) : WantAt (wx.drewN n) h ws := hw

set_option maxRecDepth 100000 in
set_option maxHeartbeats 4000000 in
theorem check_some (kb gd dc gc gs cc sc N L : Nat) (ow : Option Addr) (hpp : ∀ w : World, (binOp .neq 42 (.pointer ow) (.pointer ow)).run Yba.prog w = .ok (.bool false) w) (cs : List Ck) (ds : List Nat) (w : World)
    (r : Rd w kb gd cs ds (.slice (some ⟨gc, 0, none⟩) N cc) (.slice (some ⟨gs, 0, none⟩) N sc)) (hN : cs.length = N) (hL : ds.length = L) (hN0 : 0 < N) (hown : ∀ c ∈ cs, c.ow = .pointer ow) :
    Calls Yba.prog 10 #[.pointer (some ⟨kb, 0, none⟩), .slice (some ⟨gd, 0, none⟩) L dc, .pointer ow, .bool true] w fun e w' => e = .returned (.bool true) ∧ Below w.heap.size w w' := by
  have hneq := fun (w : World) (a : Option Addr) (n c n' c' : Nat) => run_neq_slice_nil_any (P := Yba.prog) w 49 52 a n c n' c' Yba.underlying49
  have hneq2 := fun (w : World) (a : Option Addr) (n c n' c' : Nat) => run_neq_slice_nil_any (P := Yba.prog) w 35 34 a n c n' c' Yba.underlying35
  obtain ⟨hc0, hc1, hc2, hfz⟩ := set_cells r.blk
  rw [hL] at hc2
  have hNL : N ≤ L := by rw [← hN, ← hL]; exact r.pl.count
  have hLb : L ≤ 16384 := by rw [← hL]; exact r.len
  have HN : Hid (cs.length = N) := hN
  have HL : Hid (ds.length = L) := hL
  have HOW := show Hid (∀ c ∈ cs, c.ow = .pointer ow) from hown
  clear hN hL hown
  go_enter Yba.func10, Yba.ntmps10
  go_wp2
  go_quiet (fail)
  go_wp2
  go_loopw [9, 10] (fun kv iv wr => ∃ k : Nat, k ≤ N ∧ kv = .int .i64 k ∧ iv = .int .i64 (pos cs k) ∧ Below w.heap.size w wr) (fun kv _ _ => N - (intOf kv).toNat)
  case atStart => exact ⟨0, Nat.zero_le _, rfl, by rw [pos_zero]; rfl, below_drewN (Below.refl _ _) _⟩
  case round =>
    obtain ⟨k, hk, rfl, rfl, hbel⟩ := hrel
    have r2 := r.below hbel
    obtain ⟨kc0, kc1, kc2, kfz⟩ := set_cells r2.blk
    clear hc0 hc1 hc2 hfz
    by_cases hkN : k < N
    · have hkc : k < cs.length := by rw [HN.out]; exact hkN
      have sg := r.pl.seg k hkc
      have hp := r2.ptr HN.out k hkc
      have hbse := r2.base HN.out k hkc
      have hps := pos_succ cs k hkc
      obtain ⟨lv, bv, hck⟩ := r.cks cs[k] (List.getElem_mem hkc)
      have hcow := HOW.out cs[k] (List.getElem_mem hkc)
      obtain ⟨c, hc⟩ : ∃ c, c = cs[k] := ⟨_, rfl⟩
      rw [← hc] at sg hp hbse hps hck hcow
      obtain ⟨i, hi⟩ : ∃ i, i = pos cs k := ⟨_, rfl⟩
      rw [← hi] at sg hps ⊢
      have HPS : Hid (pos cs (k + 1) = i + c.offs.length) := hps
      clear hc hps
      obtain ⟨p, ow', b0, offs⟩ := c
      simp only at sg hp hbse hcow HPS
      subst hcow
      have HCK := show Hid (CkAt w 0 ⟨p, .pointer ow, b0, offs⟩ lv bv) from hck
      obtain ⟨n0, n1, n2, n3, n4, nfz⟩ := ck_cells (hck.below hbel).1
      have hrep := (hck.below hbel).2
      simp only at hrep n1 n2
      clear hck nfz
      obtain ⟨m, hm⟩ : ∃ m, m = offs.length := ⟨_, rfl⟩
      have hfit := sg.fits
      have hpos := sg.some
      have hat := sg.at'
      have hlow := sg.low
      have hhigh := sg.high
      have hmul := sg.mul
      simp only at hfit hpos hat hlow hhigh hmul
      rw [← hm] at hfit hpos hat hlow hhigh n2 HPS hrep
      rw [HL.out] at hfit hhigh
      have HAT := show Hid _ from hat
      have HLOW := show Hid _ from hlow
      have HHIGH := show Hid _ from hhigh
      have HM := show Hid (m = offs.length) from hm
      have HREP := show Hid _ from hrep
      have hdi := r2.dss i (by rw [HL.out]; omega)
      have hd0 := hat 0 hpos
      have hl0 := hlow 0 hpos
      have htop := r.top i
      simp only [Nat.add_zero] at hd0
      obtain ⟨d0, hd0e⟩ : ∃ d, d = ds.getD i 0 := ⟨_, rfl⟩
      rw [← hd0e] at hdi hd0 htop
      have hD : (d0 : Int) - (d0 : Int) % 4096 = (b0 : Int) := by omega
      have hb0 : b0 ≤ d0 := by omega
      have hmi : (i : Int) + (m : Int) - (i : Int) = (m : Int) := by omega
      have R2 := show Hid (Rd wr kb gd cs ds (.slice (some ⟨gc, 0, none⟩) N cc) (.slice (some ⟨gs, 0, none⟩) N sc)) from r2
      have RR := show Hid (Rd w kb gd cs ds (.slice (some ⟨gc, 0, none⟩) N cc) (.slice (some ⟨gs, 0, none⟩) N sc)) from r
      clear sg hat hlow hhigh hm hd0 hd0e hrep r2
      have hiL : i < L := by omega
      clear hi r
      go_wp2
      go_quiet (fail)
      go_wp2
      clear hD hdi
      go_loop [12] (fun jv => ∃ j : Nat, i ≤ j ∧ j ≤ i + m ∧ jv = .int .i64 j) (fun jv => i + m - (intOf jv).toNat)
      case atStart => exact ⟨i, Nat.le_refl _, by omega, rfl⟩
      case round =>
        obtain ⟨j, hij, hjm, rfl⟩ := hrel
        have htj := RR.out.top j
        by_cases hjlt : j < i + m
        · have hdj := R2.out.dss j (by rw [HL.out]; omega)
          have e1 := HAT.out (j - i) (by omega)
          have e2 := HLOW.out (j - i) (by omega)
          rw [show i + (j - i) = j from by omega] at e1
          obtain ⟨dj, hdje⟩ : ∃ d, d = ds.getD j 0 := ⟨_, rfl⟩
          rw [← hdje] at hdj e1 htj
          have hg1 : b0 ≤ dj := by omega
          have hg2 : dj < b0 + 4096 := by omega
          clear e1 e2 hdje
          go_wp2
          go_round
          case rel => exact ⟨j + 1, by omega, by omega, by go_num⟩
          case measure => simp [intOf]; omega
        · obtain rfl : j = i + m := by omega
          by_cases hjL : i + m < L
          · have hdj := R2.out.dss (i + m) (by rw [HL.out]; omega)
            have e1 := HHIGH.out (i + m) (Nat.le_refl _) hjL
            obtain ⟨dj, hdje⟩ : ∃ d, d = ds.getD (i + m) 0 := ⟨_, rfl⟩
            rw [← hdje] at hdj e1 htj
            clear hdje
            rcases HREP.out with ⟨h256, hrn, hro⟩ | ⟨h256, hrn, hro⟩
            · obtain ⟨gl, lc, rfl⟩ : ∃ g c, lv = .slice (some ⟨g, 0, none⟩) m c := by
                rcases owns_form hro with ⟨_, h, _⟩ | ⟨g, c, h, _⟩
                · omega
                · exact ⟨g, c, h⟩
              subst hrn
              clear hro
              go_wp2
              go_loopw [14] (fun tv wx => ∃ u : Nat, u ≤ m ∧ tv = .int .i64 ((i + u : Nat) : Int) ∧ Below w.heap.size w wx) (fun tv _ => i + m - (intOf tv).toNat)
              case atStart => exact ⟨0, Nat.zero_le _, by go_num, below_drewN hbel _⟩
              case round =>
                obtain ⟨u, hu, rfl, hbel2⟩ := hrel
                by_cases hum : u < m
                · have k2 := HCK.out.below hbel2
                  obtain ⟨q0, q1, q2, q3, q4, qf⟩ := ck_cells k2.1
                  simp only at q1
                  have hda := (RR.out.below hbel2).dss (i + u) (by rw [HL.out]; omega)
                  have e3 := HAT.out u hum
                  have e4 := HLOW.out u hum
                  rw [e3] at hda
                  have hla : wr.cell? ⟨gl, u, none⟩ = some (.int .u16 ((offs.getD u 0 : Nat) : Int)) := by
                    rcases k2.2 with ⟨_, _, hro2⟩ | ⟨_, hx, _⟩
                    · rw [← HM.out] at hro2
                      rw [hro2.cellAt u (by omega)]
                      exact u16s_at _ _ (by rw [← HM.out]; exact hum)
                    · cases hx
                  obtain ⟨o, hoe⟩ : ∃ o, o = offs.getD u 0 := ⟨_, rfl⟩
                  have ht2 := RR.out.top (i + u)
                  rw [e3, ← hoe] at ht2
                  rw [← hoe] at hda hla e4
                  have hui : (i : Int) + (u : Int) - (i : Int) = (u : Int) := by omega
                  have hbo : (b0 : Int) + (o : Int) - (b0 : Int) = (o : Int) := by omega
                  have hda' : wr.cell? ⟨gd, i + u, none⟩ = some (.int .i32 ((b0 : Int) + (o : Int))) := by simpa using hda
                  clear e3 hoe k2 hda qf q0 q1 q2 q4 n0 n1 n2 n3 n4 kc0 kc1 kc2 kfz hp hbse
                  go_wp2
                  go_quiet (fail)
                  go_wp2
                  go_roundw
                  case rel => exact ⟨u + 1, by omega, by go_num, below_drewN hbel2 _⟩
                  case measure => simp [intOf]; omega
                · clear n0 n1 n2 n3 n4 kc0 kc1 kc2 kfz hp hbse
                  go_wp2
                  go_roundw
                  case rel => exact ⟨k + 1, by omega, by go_num, by rw [HPS.out]; go_num, hbel2⟩
                  case measure => simp [intOf]; omega
            · obtain ⟨gb, bc, rfl⟩ : ∃ g c, bv = .slice (some ⟨g, 0, none⟩) 64 c := by
                rcases owns_form hro with ⟨_, h, _⟩ | ⟨g, c, h, _⟩
                · omega
                · exact ⟨g, c, h⟩
              subst hrn
              clear hro
              obtain ⟨wo, rfl⟩ : ∃ wo : World, wo = wr := ⟨_, rfl⟩
              go_wp2
              go_loopw [16] (fun tv wx => ∃ u : Nat, u ≤ m ∧ tv = .int .i64 ((i + u : Nat) : Int) ∧ WantAt wx wo.heap.size (words (offs.take u)) ∧ Below w.heap.size w wx) (fun tv _ => i + m - (intOf tv).toNat)
              case atStart =>
                refine ⟨0, Nat.zero_le _, by go_num, ?_, ?_⟩
                · first | exact want_start wo _ nq rfl offs | exact want_start (wo.drewN nq) _ 0 rfl offs
                · first | exact below_drewN (hbel.alloc hbel.size _) _ | exact (below_drewN hbel _).alloc hbel.size _
              case round =>
                obtain ⟨u, hu, rfl, hwant, hbel2⟩ := hrel
                have hwsz := hbel.size
                clear n0 n1 n2 n3 n4 kc0 kc1 kc2 kfz hp hbse
                by_cases hum : u < m
                · have hda := (RR.out.below hbel2).dss (i + u) (by rw [HL.out]; omega)
                  have e3 := HAT.out u hum
                  have e4 := HLOW.out u hum
                  rw [e3] at hda
                  have htk : offs.take (u + 1) = offs.take u ++ [offs.getD u 0] := by
                    have hul : u < offs.length := by rw [← HM.out]; exact hum
                    rw [List.take_succ_eq_append_getElem hul]; simp [hul]
                  obtain ⟨o, hoe⟩ : ∃ o, o = offs.getD u 0 := ⟨_, rfl⟩
                  have ht2 := RR.out.top (i + u)
                  rw [e3, ← hoe] at ht2
                  rw [← hoe] at hda e4 htk
                  have hq := hwant.cell (o / 64) (by rw [words_length]; omega)
                  have hqf := hwant.frozen (o / 64)
                  have hset := hwant.set o
                  have HW2 : Hid (words (offs.take (u + 1)) = setBit (words (offs.take u)) o) := by show words _ = _; rw [htk, words_snoc]
                  obtain ⟨ws, hws⟩ : ∃ ws, ws = words (offs.take u) := ⟨_, rfl⟩
                  rw [← hws] at hq hset HW2
                  have HSET := show Hid _ from hset
                  have hbo : (b0 : Int) + (o : Int) - (b0 : Int) = (o : Int) := by omega
                  have hda' : wr.cell? ⟨gd, i + u, none⟩ = some (.int .i32 ((b0 : Int) + (o : Int))) := by simpa using hda
                  clear e3 hoe hda htk hwant hset hws
                  go_wp2
                  go_roundw
                  case rel => exact ⟨u + 1, by omega, by go_num, by rw [HW2.out]; exact HSET.out, hbel2.setCell hwsz _⟩
                  case measure => simp [intOf]; omega
                · have hwant2 : Hid (WantAt wr wo.heap.size (words offs)) := by
                    have h := hwant
                    rw [List.take_of_length_le (by rw [← HM.out]; omega)] at h
                    exact h
                  clear hwant
                  go_wp2
                  go_loopw [18] (fun vv wx => ∃ v : Nat, v ≤ 64 ∧ vv = .int .i64 (v : Int) ∧ Hid (WantAt wx wo.heap.size (words offs)) ∧ Below w.heap.size w wx) (fun vv _ => 64 - (intOf vv).toNat)
                  case atStart => exact ⟨0, Nat.zero_le _, rfl, hwant2, hbel2⟩
                  case round =>
                    obtain ⟨v, hv, rfl, hwant3, hbel3⟩ := hrel
                    clear hwant2 hbel2
                    by_cases hv64 : v < 64
                    · have k2 := HCK.out.below hbel3
                      obtain ⟨q0, q1, q2, q3, q4, qf⟩ := ck_cells k2.1
                      have hq := hwant3.out.cell v (by rw [words_length]; exact hv64)
                      have hla : wr.cell? ⟨gb, v, none⟩ = some (.int .u64 ((words offs).getD v 0)) := by
                        rcases k2.2 with ⟨_, hx, _⟩ | ⟨_, _, hro2⟩
                        · cases hx
                        · rw [hro2.cellAt v (by omega)]
                          exact u64s_at _ _ (by rw [words_length]; exact hv64)
                      obtain ⟨wv, hwv⟩ : ∃ x, x = (words offs).getD v 0 := ⟨_, rfl⟩
                      rw [← hwv] at hq hla
                      clear hwv k2 q0 q1 q2 q3 qf
                      go_wp2
                      go_quiet (fail)
                      go_wp2
                      go_roundw
                      case rel => first | exact ⟨v + 1, by omega, by go_num, hwant3.out.draws _, below_drewN hbel3 _⟩ | ((repeat apply Exists.intro); exact ⟨⟨v + 1, by omega, by go_num, hwant3.out.draws _, below_drewN hbel3 _⟩, rfl⟩)
                      case measure => simp [intOf]; omega
                    · go_wp2
                      go_roundw
                      case rel => first | exact ⟨k + 1, by omega, by go_num, by rw [HPS.out]; go_num, hbel3⟩ | ((repeat apply Exists.intro); exact ⟨⟨k + 1, by omega, by go_num, by rw [HPS.out]; go_num, hbel3⟩, rfl⟩)
                      case measure => simp [intOf]; omega
          · clear htj
            rcases HREP.out with ⟨h256, hrn, hro⟩ | ⟨h256, hrn, hro⟩
            · obtain ⟨gl, lc, rfl⟩ : ∃ g c, lv = .slice (some ⟨g, 0, none⟩) m c := by
                rcases owns_form hro with ⟨_, h, _⟩ | ⟨g, c, h, _⟩
                · omega
                · exact ⟨g, c, h⟩
              subst hrn
              clear hro
              go_wp2
              go_loopw [14] (fun tv wx => ∃ u : Nat, u ≤ m ∧ tv = .int .i64 ((i + u : Nat) : Int) ∧ Below w.heap.size w wx) (fun tv _ => i + m - (intOf tv).toNat)
              case atStart => exact ⟨0, Nat.zero_le _, by go_num, below_drewN hbel _⟩
              case round =>
                obtain ⟨u, hu, rfl, hbel2⟩ := hrel
                by_cases hum : u < m
                · have k2 := HCK.out.below hbel2
                  obtain ⟨q0, q1, q2, q3, q4, qf⟩ := ck_cells k2.1
                  simp only at q1
                  have hda := (RR.out.below hbel2).dss (i + u) (by rw [HL.out]; omega)
                  have e3 := HAT.out u hum
                  have e4 := HLOW.out u hum
                  rw [e3] at hda
                  have hla : wr.cell? ⟨gl, u, none⟩ = some (.int .u16 ((offs.getD u 0 : Nat) : Int)) := by
                    rcases k2.2 with ⟨_, _, hro2⟩ | ⟨_, hx, _⟩
                    · rw [← HM.out] at hro2
                      rw [hro2.cellAt u (by omega)]
                      exact u16s_at _ _ (by rw [← HM.out]; exact hum)
                    · cases hx
                  obtain ⟨o, hoe⟩ : ∃ o, o = offs.getD u 0 := ⟨_, rfl⟩
                  have ht2 := RR.out.top (i + u)
                  rw [e3, ← hoe] at ht2
                  rw [← hoe] at hda hla e4
                  have hui : (i : Int) + (u : Int) - (i : Int) = (u : Int) := by omega
                  have hbo : (b0 : Int) + (o : Int) - (b0 : Int) = (o : Int) := by omega
                  have hda' : wr.cell? ⟨gd, i + u, none⟩ = some (.int .i32 ((b0 : Int) + (o : Int))) := by simpa using hda
                  clear e3 hoe k2 hda qf q0 q1 q2 q4 n0 n1 n2 n3 n4 kc0 kc1 kc2 kfz hp hbse
                  go_wp2
                  go_quiet (fail)
                  go_wp2
                  go_roundw
                  case rel => exact ⟨u + 1, by omega, by go_num, below_drewN hbel2 _⟩
                  case measure => simp [intOf]; omega
                · clear n0 n1 n2 n3 n4 kc0 kc1 kc2 kfz hp hbse
                  go_wp2
                  go_roundw
                  case rel => exact ⟨k + 1, by omega, by go_num, by rw [HPS.out]; go_num, hbel2⟩
                  case measure => simp [intOf]; omega
            · obtain ⟨gb, bc, rfl⟩ : ∃ g c, bv = .slice (some ⟨g, 0, none⟩) 64 c := by
                rcases owns_form hro with ⟨_, h, _⟩ | ⟨g, c, h, _⟩
                · omega
                · exact ⟨g, c, h⟩
              subst hrn
              clear hro
              obtain ⟨wo, rfl⟩ : ∃ wo : World, wo = wr := ⟨_, rfl⟩
              go_wp2
              go_loopw [16] (fun tv wx => ∃ u : Nat, u ≤ m ∧ tv = .int .i64 ((i + u : Nat) : Int) ∧ WantAt wx wo.heap.size (words (offs.take u)) ∧ Below w.heap.size w wx) (fun tv _ => i + m - (intOf tv).toNat)
              case atStart =>
                refine ⟨0, Nat.zero_le _, by go_num, ?_, ?_⟩
                · first | exact want_start wo _ nq rfl offs | exact want_start (wo.drewN nq) _ 0 rfl offs
                · first | exact below_drewN (hbel.alloc hbel.size _) _ | exact (below_drewN hbel _).alloc hbel.size _
              case round =>
                obtain ⟨u, hu, rfl, hwant, hbel2⟩ := hrel
                have hwsz := hbel.size
                clear n0 n1 n2 n3 n4 kc0 kc1 kc2 kfz hp hbse
                by_cases hum : u < m
                · have hda := (RR.out.below hbel2).dss (i + u) (by rw [HL.out]; omega)
                  have e3 := HAT.out u hum
                  have e4 := HLOW.out u hum
                  rw [e3] at hda
                  have htk : offs.take (u + 1) = offs.take u ++ [offs.getD u 0] := by
                    have hul : u < offs.length := by rw [← HM.out]; exact hum
                    rw [List.take_succ_eq_append_getElem hul]; simp [hul]
                  obtain ⟨o, hoe⟩ : ∃ o, o = offs.getD u 0 := ⟨_, rfl⟩
                  have ht2 := RR.out.top (i + u)
                  rw [e3, ← hoe] at ht2
                  rw [← hoe] at hda e4 htk
                  have hq := hwant.cell (o / 64) (by rw [words_length]; omega)
                  have hqf := hwant.frozen (o / 64)
                  have hset := hwant.set o
                  have HW2 : Hid (words (offs.take (u + 1)) = setBit (words (offs.take u)) o) := by show words _ = _; rw [htk, words_snoc]
                  obtain ⟨ws, hws⟩ : ∃ ws, ws = words (offs.take u) := ⟨_, rfl⟩
                  rw [← hws] at hq hset HW2
                  have HSET := show Hid _ from hset
                  have hbo : (b0 : Int) + (o : Int) - (b0 : Int) = (o : Int) := by omega
                  have hda' : wr.cell? ⟨gd, i + u, none⟩ = some (.int .i32 ((b0 : Int) + (o : Int))) := by simpa using hda
                  clear e3 hoe hda htk hwant hset hws
                  go_wp2
                  go_roundw
                  case rel => exact ⟨u + 1, by omega, by go_num, by rw [HW2.out]; exact HSET.out, hbel2.setCell hwsz _⟩
                  case measure => simp [intOf]; omega
                · have hwant2 : Hid (WantAt wr wo.heap.size (words offs)) := by
                    have h := hwant
                    rw [List.take_of_length_le (by rw [← HM.out]; omega)] at h
                    exact h
                  clear hwant
                  go_wp2
                  go_loopw [18] (fun vv wx => ∃ v : Nat, v ≤ 64 ∧ vv = .int .i64 (v : Int) ∧ Hid (WantAt wx wo.heap.size (words offs)) ∧ Below w.heap.size w wx) (fun vv _ => 64 - (intOf vv).toNat)
                  case atStart => exact ⟨0, Nat.zero_le _, rfl, hwant2, hbel2⟩
                  case round =>
                    obtain ⟨v, hv, rfl, hwant3, hbel3⟩ := hrel
                    clear hwant2 hbel2
                    by_cases hv64 : v < 64
                    · have k2 := HCK.out.below hbel3
                      obtain ⟨q0, q1, q2, q3, q4, qf⟩ := ck_cells k2.1
                      have hq := hwant3.out.cell v (by rw [words_length]; exact hv64)
                      have hla : wr.cell? ⟨gb, v, none⟩ = some (.int .u64 ((words offs).getD v 0)) := by
                        rcases k2.2 with ⟨_, hx, _⟩ | ⟨_, _, hro2⟩
                        · cases hx
                        · rw [hro2.cellAt v (by omega)]
                          exact u64s_at _ _ (by rw [words_length]; exact hv64)
                      obtain ⟨wv, hwv⟩ : ∃ x, x = (words offs).getD v 0 := ⟨_, rfl⟩
                      rw [← hwv] at hq hla
                      clear hwv k2 q0 q1 q2 q3 qf
                      go_wp2
                      go_quiet (fail)
                      go_wp2
                      go_roundw
                      case rel => first | exact ⟨v + 1, by omega, by go_num, hwant3.out.draws _, below_drewN hbel3 _⟩ | ((repeat apply Exists.intro); exact ⟨⟨v + 1, by omega, by go_num, hwant3.out.draws _, below_drewN hbel3 _⟩, rfl⟩)
                      case measure => simp [intOf]; omega
                    · go_wp2
                      go_roundw
                      case rel => first | exact ⟨k + 1, by omega, by go_num, by rw [HPS.out]; go_num, hbel3⟩ | ((repeat apply Exists.intro); exact ⟨⟨k + 1, by omega, by go_num, by rw [HPS.out]; go_num, hbel3⟩, rfl⟩)
                      case measure => simp [intOf]; omega
    · obtain rfl : k = N := by omega
      have hpa := pos_all r.pl
      rw [HN.out, HL.out] at hpa
      rw [hpa]
      clear r2 hpa
      go_wp2
      go_ret
      exact ⟨rfl, hbel⟩
end Go.Proofs.Ybulkbtwy
