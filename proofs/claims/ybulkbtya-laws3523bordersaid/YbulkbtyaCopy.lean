import Derived.Test.YbulkbtyaBuild
set_option linter.unusedVariables false
namespace Go.Proofs.Ybulkbtya
open Go.RowKit

/-- The items that came in. -/
def IsItems (w : World) (a : Option Addr) (len cap : Nat) (its : List It) : Prop :=
  its.length = len ∧ ((a = none ∧ len = 0 ∧ cap = 0) ∨ ∃ x : Addr, a = some x ∧ ∀ i t, its[i]? = some t → ItemAt w x i t)

theorem build_any (a : Option Addr) (len cap : Nat) (its : List It) (w : World) (hlen : len ≤ 1024) (h : IsItems w a len cap its) : Calls Yba.prog 5 #[.slice a len cap] w (BuildPost w its) := by
  obtain ⟨hl, ⟨rfl, rfl, rfl⟩ | ⟨x, rfl, hi⟩⟩ := h
  · obtain rfl := List.eq_nil_of_length_eq_zero hl
    exact build_nil w
  · exact build_some x cap len its w hl hlen hi

/-- Cell k of announcement i. -/
theorem ann_at : ∀ (l : List (It × Value)) (i k : Nat) (q : It × Value) (v : Value), l[i]? = some q → k < 9 → (annOf q)[k]? = some v → (l.flatMap annOf)[i * 9 + k]? = some v
  | [], i, k, q, v, h, _, _ => by simp at h
  | a :: l, 0, k, q, v, h, hk, hv => by
    simp at h
    subst h
    rw [List.flatMap_cons, List.getElem?_append_left (by simp [annOf, ann]; omega)]
    simpa using hv
  | a :: l, i + 1, k, q, v, h, hk, hv => by
    rw [List.flatMap_cons, List.getElem?_append_right (by simp [annOf, ann]; omega)]
    have e : (i + 1) * 9 + k - (annOf a).length = i * 9 + k := by simp [annOf, ann]; omega
    rw [e]
    exact ann_at l i k q v (by simpa using h) hk hv

theorem copy_long (a : Option Addr) (len cap : Nat) (w : World) (h : 1024 < len) : Calls Yba.prog 4 #[.slice a len cap] w fun e w' => e = .returned (.bool true) ∧ Below w.heap.size w w' := by
  have hd : decide ((1024 : Int) < (len : Int)) = true := by simp; omega
  go_enter Yba.func4, Yba.ntmps4
  go_wp2
  go_ret
  exact ⟨rfl, Below.refl _ _⟩

set_option maxRecDepth 100000 in
set_option maxHeartbeats 1000000 in
theorem copy_walk (a0 : Option Addr) (len cap : Nat) (its : List It) (w : World) (hlen : len ≤ 1024) (h : IsItems w a0 len cap its) :
    Calls Yba.prog 4 #[.slice a0 len cap] w fun e w' => e = .returned (.bool true) ∧ Below w.heap.size w w' := by
  have hdec : decide ((1024 : Int) < (len : Int)) = false := by simp; omega
  have HI := show Hid (IsItems w a0 len cap its) from h
  clear h
  go_enter Yba.func4, Yba.ntmps4
  go_wp2_with fail
  refine (build_any a0 len cap its w hlen HI.out).mono ?_
  rintro e w1 ⟨pb, l, ra, rc, rfl, hpb, hlm, P1⟩
  have hll : l.length = len := by
    have := congrArg List.length hlm
    rw [List.length_map, HI.out.1] at this
    exact this
  have hbk := P1.blk
  have hrw := P1.row
  have hone := P1.one
  have hlt : ∀ i, i < len → ∃ q, l[i]? = some q ∧ its[i]? = some q.1 := fun i hi => ⟨l[i]'(by omega), List.getElem?_eq_getElem (by omega), by rw [← hlm, List.getElem?_map, List.getElem?_eq_getElem (show i < l.length by omega)]; rfl⟩
  rw [hll] at hbk hrw
  have HP := show Hid (PSt w w1 pb l ra rc) from P1
  have HBK := show Hid (w1.heap[pb]? = some (poolObj 0 (.slice ra len rc))) from hbk
  have HRW := show Hid (w1.ownsRow w.heap.size 35 9 (.slice ra len rc) len (l.flatMap annOf)) from hrw
  have HONE := show Hid (∀ u ∈ l.flatMap annOf, u.oneCell' = true) from hone
  have HLT := show Hid (∀ i, i < len → ∃ q, l[i]? = some q ∧ its[i]? = some q.1) from hlt
  clear P1 hbk hrw hone hlt
  go_wp2_with fail
  refine (received_any pb _ len ra rc _ w1 HBK.out HRW.out HONE.out hlen).mono ?_
  rintro e w2 ⟨ga, gc, rfl, hg2, hnil, hc2⟩
  have HG2 := show Hid (w2.ownsRow w1.heap.size 35 9 (.slice ga len gc) len (l.flatMap annOf)) from hg2
  have HC2 := show Hid (Chg (fun _ => False) w1 w2) from hc2
  clear hg2 hc2 hnil
  go_wp2_with fail
  go_loopw [5] (fun i wr => ∃ (m : Nat) (xs : List Value), m ≤ len ∧ i = .int .i64 m ∧ wr.ownsRow w1.heap.size 35 9 (.slice ga len gc) len xs ∧ (∀ j, m * 9 ≤ j → xs[j]? = (l.flatMap annOf)[j]?) ∧ (∀ u ∈ xs, u.oneCell' = true) ∧ Chg (fun k => w1.heap.size ≤ k) w2 wr) (fun i _ => len - (intOf i).toNat)
  case atStart => exact ⟨0, _, Nat.zero_le _, rfl, HG2.out, fun _ _ => rfl, HONE.out, Chg.refl _ _⟩
  case round =>
    obtain ⟨m, xs, hm, rfl, hown, hsame, hox, hcr⟩ := hrel
    by_cases hml : m < len
    · obtain ⟨q, hq, hqi⟩ := HLT.out m hml
      obtain ⟨g, rfl⟩ : ∃ g, ga = some ⟨g, 0, none⟩ := by
        rcases owns_form hown with ⟨_, h, _⟩ | ⟨g, c, h, _⟩
        · omega
        · injection h with h1 h2 h3
          exact ⟨g, h1⟩
      have hc6 : wr.cell? ⟨g, m * 9 + 6, none⟩ = some (.string q.1.p) := by
        rw [hown.cellAt _ (by omega), hsame _ (by omega)]
        exact ann_at l m 6 q _ hq (by decide) rfl
      have hc7 : wr.cell? ⟨g, m * 9 + 7, none⟩ = some (.string q.1.c) := by
        rw [hown.cellAt _ (by omega), hsame _ (by omega)]
        exact ann_at l m 7 q _ hq (by decide) rfl
      have hfz : ∀ j, wr.frozen? ⟨g, j, none⟩ = false := hown.frozenAt
      have hov : ¬ 9223372036854775807 < q.1.p.size + 1 := by
        rcases HI.out.2 with ⟨_, h, _⟩ | ⟨x, _, hx⟩
        · omega
        · have := (hx m q.1 hqi).pz
          omega
      have HO := show Hid (wr.ownsRow w1.heap.size 35 9 (.slice (some ⟨g, 0, none⟩) len gc) len xs) from hown
      have HSM := show Hid (∀ j, m * 9 ≤ j → xs[j]? = (l.flatMap annOf)[j]?) from hsame
      have HOX := show Hid (∀ u ∈ xs, u.oneCell' = true) from hox
      have HCR := show Hid (Chg (fun k => w1.heap.size ≤ k) w2 wr) from hcr
      clear hown hsame hox hcr
      go_wp2_with fail
      go_roundw
      case rel =>
        have hgb := (owns_lt HO.out g rfl).1
        refine ⟨m + 1, _, by omega, by go_num, ((HO.out.stored (m * 9 + 6) _).1.stored (m * 9 + 7) _).1, fun j hj => ?_, fun u hu => ?_, (HCR.out.setCell (p := ⟨g, _, none⟩) (fun _ => hgb) _).setCell (p := ⟨g, _, none⟩) (fun _ => hgb) _⟩
        · rw [List.getElem?_set_ne (by omega), List.getElem?_set_ne (by omega)]
          exact HSM.out j (by omega)
        · rcases List.mem_or_eq_of_mem_set hu with hu | rfl
          · rcases List.mem_or_eq_of_mem_set hu with hu | rfl
            · exact HOX.out u hu
            · rfl
          · rfl
      case measure => simp [intOf]; omega
    · obtain rfl : m = len := by omega
      obtain ⟨i35, hi35, hz35, hs35, hy35⟩ := info_parts Yba.info35
      have HO := show Hid (wr.ownsRow w1.heap.size 35 9 (.slice ga m gc) m xs) from hown
      have HOX := show Hid (∀ u ∈ xs, u.oneCell' = true) from hox
      have HCR := show Hid (Chg (fun k => w1.heap.size ≤ k) w2 wr) from hcr
      clear hown hsame hox hcr
      have hsr : w1.heap.size ≤ wr.heap.size := Nat.le_trans HC2.out.size HCR.out.size
      go_wp2_with (at_builtin; refine wpList_append_lies _ rfl (.tmp 35) (.tmp 37) 25 rfl w1.heap.size 35 i35 _ 9 104 Yba.underlying25 hi35 hz35 hs35 hy35 rfl (by decide) (.slice ga m gc) m xs rfl (HO.out.alloc _) ⟨wr.heap.size, 0, none⟩ 1 1 (ann 0 0 ⟨#[101, 120, 116, 114, 97]⟩ ⟨#[]⟩ (.slice none 0 0)) rfl rfl (cells_new wr wr.heap.size rfl _ 35) (ann_one _ _ _ _ _ _ _) (by decide) ?b1 ?b2 ?b3 _ rfl ?go)
      case b1 => unfold maxLen; omega
      case b2 => omega
      case b3 => simp; omega
      case go =>
        intro g4 c4 w4 hown4 hgrow4 hat4 hlt4
        have hc4 : Chg (fun k => w1.heap.size ≤ k) w2 w4 := (HCR.out.alloc _).grown hgrow4 (fun k h _ => (owns_lt HO.out k h).1)
        have hc14 : Chg (fun _ => False) w1 w4 := ((HC2.out.mono (T := fun k => w1.heap.size ≤ k) (fun _ _ h => h.elim)).trans hc4).mono (fun k hk h => by omega)
        have HC14 := show Hid (Chg (fun _ => False) w1 w4) from hc14
        have hbk4 : w4.heap[pb]? = some (poolObj 0 (.slice ra m rc)) := (HC14.out.block pb (lt_of_blk HBK.out) id).trans HBK.out
        have HBK4 := show Hid (w4.heap[pb]? = some (poolObj 0 (.slice ra m rc))) from hbk4
        have HRW4 : Hid (w4.ownsRow w.heap.size 35 9 (.slice ra m rc) m (l.flatMap annOf)) := HC14.out.owns HRW.out (fun _ _ h => h)
        clear hc4 hc14 hbk4 hown4 hgrow4 hat4 hlt4 HO HOX HCR hsr
        go_wp2_with fail
        refine (received_any pb _ m ra rc _ w4 HBK4.out HRW4.out HONE.out hlen).mono ?_
        rintro e w5 ⟨aa, ac, rfl, hg5, hnil, hc5⟩
        have HG5 := show Hid (w5.ownsRow w4.heap.size 35 9 (.slice aa m ac) m (l.flatMap annOf)) from hg5
        have hb5 : Below w.heap.size w w5 := HP.out.bel.trans (((HC14.out.trans hc5).below (Nat.le_refl _) (fun _ x => x.elim)).mono HP.out.bel.size)
        have HB5 := show Hid (Below w.heap.size w w5) from hb5
        clear hg5 hc5 hnil hb5 HBK4 HRW4 HC14 HG2 HC2
        obtain ⟨wo, hwo⟩ : ∃ wo : World, wo = wr := ⟨_, rfl⟩
        go_wp2_with fail
        subst hwo
        go_loopw [7] (fun i wx => ∃ k : Nat, k ≤ m ∧ i = .int .i64 k ∧ Chg (fun _ => False) w5 wx) (fun i _ => m - (intOf i).toNat)
        case atStart => exact ⟨0, Nat.zero_le _, rfl, Chg.refl _ _⟩
        case round =>
          obtain ⟨k, hk, rfl, hcx⟩ := hrel
          by_cases hkm : k < m
          · obtain ⟨q, hq, hqi⟩ := HLT.out k hkm
            have hown := hcx.owns HG5.out (fun _ _ h => h)
            have hbx : Below w.heap.size w wr := HB5.out.trans ((hcx.below (Nat.le_refl _) (fun _ x => x.elim)).mono HB5.out.size)
            obtain ⟨g, rfl⟩ : ∃ g, aa = some ⟨g, 0, none⟩ := by
              rcases owns_form hown with ⟨_, h, _⟩ | ⟨g, c, h, _⟩
              · omega
              · injection h with h1 h2 h3
                exact ⟨g, h1⟩
            obtain ⟨x, rfl, hI⟩ : ∃ x : Addr, a0 = some x ∧ ItemAt wr x k q.1 := by
              rcases HI.out.2 with ⟨_, h, _⟩ | ⟨x, h, hx⟩
              · omega
              · exact ⟨x, h, (hx k q.1 hqi).chg (Chg.ofBelow hbx) (fun j hj h => by omega)⟩
            have hc6 : wr.cell? ⟨g, k * 9 + 6, none⟩ = some (.string q.1.p) := by
              rw [hown.cellAt _ (by omega)]
              exact ann_at l k 6 q _ hq (by decide) rfl
            have hc7 : wr.cell? ⟨g, k * 9 + 7, none⟩ = some (.string q.1.c) := by
              rw [hown.cellAt _ (by omega)]
              exact ann_at l k 7 q _ hq (by decide) rfl
            have c1 := hI.c1
            have c2 := hI.c2
            have HCX := show Hid (Chg (fun _ => False) w5 wr) from hcx
            clear hI hown hbx hcx
            go_wp2_with fail
            go_quiet (fail)
            go_wp2
            go_roundw
            case rel => exact ⟨k + 1, by omega, by go_num, HCX.out.os, HCX.out.tape, HCX.out.output, HCX.out.size, HCX.out.block⟩
            case measure => simp [intOf]; omega
          · obtain rfl : k = m := by omega
            have hbx : Below w.heap.size w wr := HB5.out.trans ((hcx.below (Nat.le_refl _) (fun _ x => x.elim)).mono HB5.out.size)
            have HBX := show Hid (Below w.heap.size w wr) from hbx
            clear hbx hcx
            go_wp2_with fail
            go_ret
            exact ⟨rfl, HBX.out⟩
end Go.Proofs.Ybulkbtya
