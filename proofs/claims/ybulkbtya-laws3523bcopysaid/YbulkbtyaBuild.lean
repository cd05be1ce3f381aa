import Derived.Test.YbulkbtyaRecord
import Derived.Test.YbulkbtyaTime
set_option linter.unusedVariables false
namespace Go.Proofs.Ybulkbtya
open Go.RowKit

structure It where
  ns : Int
  p : ByteArray
  c : ByteArray
  ba : Option Addr
  bl : Nat
  bc : Nat
  zs : List Value

/-- An item's bytes. -/
def BodyAt (w : World) (t : It) : Prop :=
  (t.ba = none ∧ t.bl = 0 ∧ t.bc = 0 ∧ t.zs = []) ∨ ∃ y : Addr, t.ba = some y ∧ (t.bl ≠ 0 → y.block < w.heap.size) ∧ t.zs.length = t.bl ∧ (∀ j u, t.zs[j]? = some u → w.cell? (y.add j) = some u) ∧ (∀ u ∈ t.zs, u.oneCell' = true) ∧ t.bl ≤ 140737488355328

/-- Item number i of the slice at x. -/
structure ItemAt (w : World) (x : Addr) (i : Nat) (t : It) : Prop where
  blk : x.block < w.heap.size
  c0 : w.cell? (x.add (i * 4)) = some (.int .i64 t.ns)
  c1 : w.cell? ⟨(x.add (i * 4)).block, (x.add (i * 4)).off + 1, none⟩ = some (.string t.p)
  c2 : w.cell? ⟨(x.add (i * 4)).block, (x.add (i * 4)).off + 2, none⟩ = some (.string t.c)
  c3 : w.cell? ⟨(x.add (i * 4)).block, (x.add (i * 4)).off + 3, none⟩ = some (.slice t.ba t.bl t.bc)
  lo : -9223372036854775808 ≤ t.ns
  hi : t.ns ≤ 9223372036854775807
  pz : t.p.size ≤ 140737488355328
  body : BodyAt w t

theorem BodyAt.chg {S : Nat → Prop} {w w' : World} {t : It} (h : BodyAt w t) (hc : Chg S w w') (hs : ∀ k, k < w.heap.size → ¬ S k) : BodyAt w' t := by
  rcases h with h | ⟨y, h1, h2, h3, h4, h5, h6⟩
  · exact Or.inl h
  · have hne : ∀ {j : Nat} {u : Value}, t.zs[j]? = some u → t.bl ≠ 0 := fun hj => by have := (List.getElem?_eq_some_iff.1 hj).1; omega
    exact Or.inr ⟨y, h1, fun hn => Nat.lt_of_lt_of_le (h2 hn) hc.size, h3, fun j u hj => (hc.cell (p := y.add j) (by rw [add_block]; exact h2 (hne hj)) (by rw [add_block]; exact hs _ (h2 (hne hj)))).trans (h4 j u hj), h5, h6⟩

theorem ItemAt.chg {S : Nat → Prop} {w w' : World} {x : Addr} {i : Nat} {t : It} (h : ItemAt w x i t) (hc : Chg S w w') (hs : ∀ k, k < w.heap.size → ¬ S k) : ItemAt w' x i t := by
  have hb : (x.add (i * 4)).block < w.heap.size := by rw [add_block]; exact h.blk
  have e : ∀ o, w'.cell? ⟨(x.add (i * 4)).block, o, none⟩ = w.cell? ⟨(x.add (i * 4)).block, o, none⟩ := fun o => hc.cell (p := ⟨(x.add (i * 4)).block, o, none⟩) hb (hs _ hb)
  exact ⟨Nat.lt_of_lt_of_le h.blk hc.size, (hc.cell (p := x.add (i * 4)) hb (hs _ hb)).trans h.c0, (e _).trans h.c1, (e _).trans h.c2, (e _).trans h.c3, h.lo, h.hi, h.pz, h.body.chg hc hs⟩

theorem clone_any (t : It) (w : World) (h : BodyAt w t) :
    Calls Yba.prog 12 #[.slice t.ba t.bl t.bc] w fun e w' => ∃ a c, e = .returned (.slice a t.bl c) ∧ w'.ownsRow w.heap.size 5 1 (.slice a t.bl c) t.bl t.zs ∧ Chg (fun _ => False) w w' := by
  rcases h with ⟨h1, h2, h3, h4⟩ | ⟨y, h1, h2, h3, h4, h5, h6⟩
  · rw [h1, h2, h3, h4]
    refine (clone_nil w).mono ?_
    rintro e w' ⟨rfl, rfl⟩
    exact ⟨none, 0, rfl, World.ownsRow_nil _ _ _ _, Chg.refl _ _⟩
  · rw [h1]
    refine (clone_some y t.bl t.bc t.zs w h3 h4 h5 h6 h2).mono ?_
    rintro e w' ⟨bv, rfl, ho, hc⟩
    obtain ⟨a, c, rfl⟩ := owns_slice ho
    exact ⟨a, c, rfl, ho, hc⟩

def annOf (q : It × Value) : List Value := ann (tns q.1.ns) (tsec q.1.ns) q.1.p q.1.c q.2

/-- The pool behind so many records. -/
structure PSt (w0 w : World) (pb : Nat) (l : List (It × Value)) (ra : Option Addr) (rc : Nat) : Prop where
  blk : w.heap[pb]? = some (poolObj 0 (.slice ra l.length rc))
  row : w.ownsRow w0.heap.size 35 9 (.slice ra l.length rc) l.length (l.flatMap annOf)
  bod : ∀ q ∈ l, w.ownsRow w0.heap.size 5 1 q.2 q.1.bl q.1.zs
  bel : Below w0.heap.size w0 w
  nil : l = [] → ra = none ∧ rc = 0

theorem PSt.one {w0 w : World} {pb : Nat} {l : List (It × Value)} {ra : Option Addr} {rc : Nat} (h : PSt w0 w pb l ra rc) : ∀ u ∈ l.flatMap annOf, u.oneCell' = true := by
  intro u hu
  obtain ⟨q, hq, hu⟩ := List.mem_flatMap.1 hu
  obtain ⟨a, c, e⟩ := owns_slice (h.bod q hq)
  rw [annOf, e] at hu
  exact ann_one _ _ _ _ _ _ _ u hu

theorem PSt.chg {w0 w w' : World} {pb : Nat} {l : List (It × Value)} {ra : Option Addr} {rc : Nat} (h : PSt w0 w pb l ra rc) (hc : Chg (fun _ => False) w w') : PSt w0 w' pb l ra rc :=
  ⟨(hc.block pb (lt_of_blk h.blk) id).trans h.blk, hc.owns h.row (fun _ _ x => x), fun q hq => hc.owns (h.bod q hq) (fun _ _ x => x),
    h.bel.trans ((hc.below (Nat.le_refl _) (fun _ x => x.elim)).mono h.bel.size), h.nil⟩

theorem PSt.grow {w0 w w' : World} {pb : Nat} {l : List (It × Value)} {ra ra' : Option Addr} {rc rc' : Nat} (h : PSt w0 w pb l ra rc) (t : It) (bv : Value) (hbv : w.ownsRow w0.heap.size 5 1 bv t.bl t.zs) (hpb : w0.heap.size ≤ pb)
    (hb : w'.heap[pb]? = some (poolObj 0 (.slice ra' (l.length + 1) rc'))) (ho : w'.ownsRow w0.heap.size 35 9 (.slice ra' (l.length + 1) rc') (l.length + 1) (l.flatMap annOf ++ ann (tns t.ns) (tsec t.ns) t.p t.c bv))
    (hc : Chg (fun k => k = pb ∨ (Value.slice ra l.length rc).ownBlock = some k) w w') : PSt w0 w' pb (l ++ [(t, bv)]) ra' rc' := by
  have hrow : ∀ {v : Value} {n : Nat} {xs : List Value}, w.ownsRow w0.heap.size 5 1 v n xs → w'.ownsRow w0.heap.size 5 1 v n xs := fun hv => hc.owns hv (fun k hk hs => by
    rcases hs with rfl | hs
    · exact row_apart hv h.blk (by decide) hk
    · exact owns_apart hv h.row (by decide) hk hs)
  refine ⟨by simpa using hb, by simpa [annOf] using ho, fun q hq => ?_, h.bel.trans (hc.below h.bel.size (fun k hk => ?_)), fun e => by simp at e⟩
  · rcases List.mem_append.1 hq with hq | hq
    · exact hrow (h.bod q hq)
    · obtain rfl := List.mem_singleton.1 hq
      exact hrow hbv
  · rcases hk with rfl | hk
    · exact hpb
    · exact (owns_lt h.row k hk).1

/-- What build leaves. -/
def BuildPost (w0 : World) (its : List It) (e : Ending) (w' : World) : Prop :=
  ∃ pb l ra rc, e = .returned (.pointer (some ⟨pb, 0, none⟩)) ∧ w0.heap.size ≤ pb ∧ l.map Prod.fst = its ∧ PSt w0 w' pb l ra rc

set_option maxRecDepth 100000 in
set_option maxHeartbeats 1000000 in
theorem build_some (x : Addr) (cap : Nat) (len : Nat) (its : List It) (w : World) (hl : its.length = len) (hlen : len ≤ 1024) (hit : ∀ i t, its[i]? = some t → ItemAt w x i t) :
    Calls Yba.prog 5 #[.slice (some x) len cap] w (BuildPost w its) := by
  have HIT := show Hid (∀ i t, its[i]? = some t → ItemAt w x i t) from hit
  clear hit
  have P0 : PSt w (w.alloc (.cells #[.string ⟨#[]⟩, .int .i64 0, .string ⟨#[]⟩, .string ⟨#[]⟩, .chan none, .int .i32 0, .int .u32 0, .slice none 0 0] 52)) w.heap.size [] none 0 :=
    ⟨heap_alloc_new _ _, World.ownsRow_nil _ _ _ _, fun q hq => (by cases hq), (Below.refl _ _).alloc (Nat.le_refl _) _, fun _ => ⟨rfl, rfl⟩⟩
  go_enter Yba.func5, Yba.ntmps5
  go_wp2_with fail
  go_loopw [4] (fun i wr => ∃ (m : Nat) (l : List (It × Value)) (ra : Option Addr) (rc : Nat), m ≤ len ∧ i = .int .i64 m ∧ l.map Prod.fst = its.take m ∧ PSt w wr w.heap.size l ra rc) (fun i _ => len - (intOf i).toNat)
  case atStart => exact ⟨0, [], none, 0, Nat.zero_le _, rfl, by simp, P0⟩
  case round =>
    obtain ⟨m, l, ra, rc, hm, rfl, hlm, L⟩ := hrel
    clear P0
    have hll : l.length = m := by
      have := congrArg List.length hlm
      simp only [List.length_map, List.length_take] at this
      omega
    by_cases hlt : m < len
    · obtain ⟨t, ht⟩ : ∃ t, its[m]? = some t := ⟨its[m]'(by omega), by simp⟩
      have hI : ItemAt wr x m t := (HIT.out m t ht).chg (Chg.ofBelow L.bel) (fun k hk h => by omega)
      have c0 := hI.c0
      have c1 := hI.c1
      have c2 := hI.c2
      have c3 := hI.c3
      have hlo := hI.lo
      have hhi := hI.hi
      have HB := show Hid (BodyAt wr t) from hI.body
      have HP := show Hid (PSt w wr w.heap.size l ra rc) from L
      clear hI L
      go_wp2_with fail
      have HNB : Hid ((wr.alloc (.cells #[.int .i64 t.ns, .string t.p, .string t.c, .slice t.ba t.bl t.bc] 29)).heap[wr.heap.size]? = some (.cells #[.int .i64 t.ns, .string t.p, .string t.c, .slice t.ba t.bl t.bc] 29 (0, 0))) := heap_alloc_new _ _
      have HC1 : Hid (Chg (fun _ => False) wr (wr.alloc (.cells #[.int .i64 t.ns, .string t.p, .string t.c, .slice t.ba t.bl t.bc] 29))) := (Chg.refl _ _).alloc _
      obtain ⟨w1, hw1⟩ : ∃ w1 : World, w1 = wr.alloc (.cells #[.int .i64 t.ns, .string t.p, .string t.c, .slice t.ba t.bl t.bc] 29) := ⟨_, rfl⟩
      simp only [← hw1] at HNB HC1 ⊢
      clear hw1 c0 c1 c2 c3
      have HS : Hid (∀ X : World, X.heap[wr.heap.size]? = some (.cells #[.int .i64 t.ns, .string t.p, .string t.c, .slice t.ba t.bl t.bc] 29 (0, 0)) → X.cell? ⟨wr.heap.size, 0, none⟩ = some (.int .i64 t.ns) ∧ X.cell? ⟨wr.heap.size, 1, none⟩ = some (.string t.p) ∧ X.cell? ⟨wr.heap.size, 2, none⟩ = some (.string t.c) ∧ X.cell? ⟨wr.heap.size, 3, none⟩ = some (.slice t.ba t.bl t.bc)) := fun X h =>
        ⟨cell_of_row X _ 0 _ _ _ h, cell_of_row X _ 1 _ _ _ h, cell_of_row X _ 2 _ _ _ h, cell_of_row X _ 3 _ _ _ h⟩
      have hS1 := HS.out w1 HNB.out
      refine wp_region_N (late := fun j => j == 0 || j == 1 || j == 2 || j == 5 || j == 7 || j == 9) (S := fun X => X.cell? ⟨wr.heap.size, 0, none⟩ = some (.int .i64 t.ns) ∧ X.cell? ⟨wr.heap.size, 1, none⟩ = some (.string t.p) ∧ X.cell? ⟨wr.heap.size, 2, none⟩ = some (.string t.c) ∧ X.cell? ⟨wr.heap.size, 3, none⟩ = some (.slice t.ba t.bl t.bc)) (by kernel_rfl) ?_
      refine takeP 0 (some 18) (.move (.tmp 3)) (.pointer (some ⟨w.heap.size, 0, none⟩)) (by kernel_rfl) (by kernel_rfl) (by kernel_rfl) (by kernel_rfl) (by kernel_rfl) (fun _ _ _ h => h) ?_ ?_
      · intro o ho x
        unfold execOp
        rw [ho]
        go_simp
      simp only [Act.put, List.setIfInBounds_toArray, List.set_cons_zero, List.set_cons_succ]
      refine takeP 1 (some 19) (.build 33 #[]) (.agg #[.int .u64 0, .int .i64 0, .pointer none]) (by kernel_rfl) (by kernel_rfl) (by kernel_rfl) (by kernel_rfl) (by kernel_rfl) (fun _ _ _ h => h) ?_ ?_
      · intro o ho x
        unfold execOp
        rw [ho]
        go_simp
      simp only [Act.put, List.setIfInBounds_toArray, List.set_cons_zero, List.set_cons_succ]
      refine takeP 2 (some 20) (.fieldAddr 29 (.tmp 5) 0) (.pointer (some ⟨wr.heap.size, 0, none⟩)) (by kernel_rfl) (by kernel_rfl) (by kernel_rfl) (by kernel_rfl) (by kernel_rfl) (fun _ _ _ h => h) ?_ ?_
      · intro o ho x
        unfold execOp
        rw [ho]
        go_simp
      simp only [Act.put, List.setIfInBounds_toArray, List.set_cons_zero, List.set_cons_succ]
      refine takeP 5 (some 23) (.fieldAddr 29 (.tmp 5) 1) (.pointer (some ⟨wr.heap.size, 1, none⟩)) (by kernel_rfl) (by kernel_rfl) (by kernel_rfl) (by kernel_rfl) (by kernel_rfl) (fun _ _ _ h => h) ?_ ?_
      · intro o ho x
        unfold execOp
        rw [ho]
        go_simp
      simp only [Act.put, List.setIfInBounds_toArray, List.set_cons_zero, List.set_cons_succ]
      refine takeP 7 (some 25) (.fieldAddr 29 (.tmp 5) 2) (.pointer (some ⟨wr.heap.size, 2, none⟩)) (by kernel_rfl) (by kernel_rfl) (by kernel_rfl) (by kernel_rfl) (by kernel_rfl) (fun _ _ _ h => h) ?_ ?_
      · intro o ho x
        unfold execOp
        rw [ho]
        go_simp
      simp only [Act.put, List.setIfInBounds_toArray, List.set_cons_zero, List.set_cons_succ]
      refine takeP 9 (some 27) (.fieldAddr 29 (.tmp 5) 3) (.pointer (some ⟨wr.heap.size, 3, none⟩)) (by kernel_rfl) (by kernel_rfl) (by kernel_rfl) (by kernel_rfl) (by kernel_rfl) (fun _ _ _ h => h) ?_ ?_
      · intro o ho x
        unfold execOp
        rw [ho]
        go_simp
      simp only [Act.put, List.setIfInBounds_toArray, List.set_cons_zero, List.set_cons_succ]
      refine takeJ 3 (some 21) (.load 2 (.tmp 20)) (.int .i64 t.ns) (by kernel_rfl) (by kernel_rfl) (by kernel_rfl) (by kernel_rfl) (by kernel_rfl) (fun _ _ _ h => h) hS1 ?_ ?_
      · intro o ho x hx
        obtain ⟨x0, x1, x2, x3⟩ := hx
        unfold execOp
        rw [ho]
        go_simp
      simp only [Act.put, List.setIfInBounds_toArray, List.set_cons_zero, List.set_cons_succ]
      refine takeJ 6 (some 24) (.load 9 (.tmp 23)) (.string t.p) (by kernel_rfl) (by kernel_rfl) (by kernel_rfl) (by kernel_rfl) (by kernel_rfl) (fun _ _ _ h => h) hS1 ?_ ?_
      · intro o ho x hx
        obtain ⟨x0, x1, x2, x3⟩ := hx
        unfold execOp
        rw [ho]
        go_simp
      simp only [Act.put, List.setIfInBounds_toArray, List.set_cons_zero, List.set_cons_succ]
      refine takeJ 8 (some 26) (.load 9 (.tmp 25)) (.string t.c) (by kernel_rfl) (by kernel_rfl) (by kernel_rfl) (by kernel_rfl) (by kernel_rfl) (fun _ _ _ h => h) hS1 ?_ ?_
      · intro o ho x hx
        obtain ⟨x0, x1, x2, x3⟩ := hx
        unfold execOp
        rw [ho]
        go_simp
      simp only [Act.put, List.setIfInBounds_toArray, List.set_cons_zero, List.set_cons_succ]
      refine takeJ 10 (some 28) (.load 27 (.tmp 27)) (.slice t.ba t.bl t.bc) (by kernel_rfl) (by kernel_rfl) (by kernel_rfl) (by kernel_rfl) (by kernel_rfl) (fun _ _ _ h => h) hS1 ?_ ?_
      · intro o ho x hx
        obtain ⟨x0, x1, x2, x3⟩ := hx
        unfold execOp
        rw [ho]
        go_simp
      simp only [Act.put, List.setIfInBounds_toArray, List.set_cons_zero, List.set_cons_succ]
      refine wpAnyJ_ready (rs := [4]) (by kernel_rfl) (by simp) ?_
      refine stepJ 4 (some 22) (.call { callee := .value (.func 8), args := #[.tmp 19, .tmp 21], argTypes := #[33, 38] }) (by kernel_rfl) (fun o ho hd K hK => ?_) AllReadyJ.nil
      unfold Oper.wp execOp
      rw [ho]
      go_simp
      refine (add_any t.ns _ hlo hhi).mono ?_
      rintro e w2 ⟨rfl, hc2⟩
      have HC2 : Hid (Chg (fun _ => False) w1 w2) := ((Chg.refl _ w1).drew).trans hc2
      have HN2 : Hid (w2.heap[wr.heap.size]? = some (.cells #[.int .i64 t.ns, .string t.p, .string t.c, .slice t.ba t.bl t.bc] 29 (0, 0))) := (HC2.out.block _ (lt_of_blk HNB.out) id).trans HNB.out
      refine hK.out _ _ (Or.inr (HS.out w2 HN2.out)) ?_
      clear hK K ho hd o hc2 hS1
      try simp only [Act.put, List.setIfInBounds_toArray, List.set_cons_zero, List.set_cons_succ]
      refine wpAnyJ_ready (rs := [11]) (by kernel_rfl) (by simp) ?_
      refine stepJ 11 (some 29) (.call { callee := .value (.func 12), args := #[.tmp 28], argTypes := #[27] }) (by kernel_rfl) (fun o ho hd K hK => ?_) AllReadyJ.nil
      unfold Oper.wp execOp
      rw [ho]
      go_simp
      have hC12 := HC1.out.trans HC2.out
      refine (clone_any t w2 (HB.out.chg hC12 (fun _ _ => id))).mono ?_
      rintro e w3 ⟨ba, bc, rfl, hbv, hc3⟩
      have HC3 : Hid (Chg (fun _ => False) w2 w3) := hc3
      have HBV : Hid (w3.ownsRow w2.heap.size 5 1 (.slice ba t.bl bc) t.bl t.zs) := hbv
      have HN3 : Hid (w3.heap[wr.heap.size]? = some (.cells #[.int .i64 t.ns, .string t.p, .string t.c, .slice t.ba t.bl t.bc] 29 (0, 0))) := (HC3.out.block _ (lt_of_blk HN2.out) id).trans HN2.out
      have HP3 : Hid (PSt w w3 w.heap.size l ra rc) := HP.out.chg (hC12.trans HC3.out)
      refine hK.out _ _ (Or.inr (HS.out w3 HN3.out)) ?_
      have hsz2 : w.heap.size ≤ w2.heap.size := Nat.le_trans HP.out.bel.size hC12.size
      clear hK K ho hd o hc3 hbv hC12
      try simp only [Act.put, List.setIfInBounds_toArray, List.set_cons_zero, List.set_cons_succ]
      refine wpAnyJ_ready (rs := [12]) (by kernel_rfl) (by simp) ?_
      refine stepJ 12 (some 30) (.build 35 #[(0, .tmp 22), (2, .tmp 24), (3, .tmp 26), (4, .tmp 29)]) (by kernel_rfl) (fun o ho hd K hK => ?_) AllReadyJ.nil
      unfold Oper.wp execOp
      rw [ho]
      go_simp
      refine hK.out _ _ (Or.inr (HS.out w3 HN3.out)) ?_
      clear hK K ho hd o
      try simp only [Act.put, List.setIfInBounds_toArray, List.set_cons_zero, List.set_cons_succ]
      refine wpAnyJ_ready (rs := [13]) (by kernel_rfl) (by simp) ?_
      refine stepJ 13 (some 31) (.call { callee := .value (.func 11), args := #[.tmp 18, .tmp 30], argTypes := #[23, 35] }) (by kernel_rfl) (fun o ho hd K hK => ?_) AllReadyJ.nil
      unfold Oper.wp execOp
      rw [ho]
      go_simp
      refine (record_any w.heap.size w.heap.size l.length ra rc _ (tns t.ns) (tsec t.ns) t.p t.c ba t.bl bc w3 HP3.out.blk HP3.out.row (by omega) HP3.out.bel.size).mono ?_
      rintro e w4 ⟨rfl, ra', rc', hb4, ho4, hc4⟩
      have hP4 : PSt w w4 w.heap.size (l ++ [(t, .slice ba t.bl bc)]) ra' rc' := HP3.out.grow t _ (owns_base HBV.out (fun k hk => Nat.le_trans hsz2 (owns_lt HBV.out k hk).1)) (Nat.le_refl _) hb4 ho4 hc4
      have HN4 : w4.heap[wr.heap.size]? = some (.cells #[.int .i64 t.ns, .string t.p, .string t.c, .slice t.ba t.bl t.bc] 29 (0, 0)) := (hc4.block _ (lt_of_blk HN3.out) (fun h => by
        rcases h with h | h
        · have e1 := HP3.out.blk
          rw [← h, HN3.out] at e1
          simp [poolObj] at e1
        · exact row_apart HP3.out.row HN3.out (by decide) h)).trans HN3.out
      refine hK.out _ _ (Or.inr (HS.out w4 HN4)) ?_
      have HP4 := show Hid (PSt w w4 w.heap.size (l ++ [(t, .slice ba t.bl bc)]) ra' rc') from hP4
      clear hK K ho hd o hb4 ho4 hc4 hP4 HN4
      try simp only [Act.put, List.setIfInBounds_toArray, List.set_cons_zero, List.set_cons_succ]
      refine wpAnyJ_done (by kernel_rfl) ?_ _
      unfold nrm
      go_wp2_with fail
      go_roundw
      case rel =>
        refine ⟨m + 1, _, ra', rc', by omega, by go_num, ?_, HP4.out⟩
        rw [List.map_append, hlm, List.take_add_one, ht]
        rfl
      case measure => simp [intOf]; omega
    · obtain rfl : m = len := by omega
      have HP := show Hid (PSt w wr w.heap.size l ra rc) from L
      clear L
      go_wp2_with fail
      go_ret
      exact ⟨w.heap.size, l, ra, rc, rfl, Nat.le_refl _, by rw [hlm, ← hl]; simp, HP.out⟩

set_option maxRecDepth 100000 in
theorem build_nil (w : World) : Calls Yba.prog 5 #[.slice none 0 0] w (BuildPost w []) := by
  have P0 : PSt w (w.alloc (.cells #[.string ⟨#[]⟩, .int .i64 0, .string ⟨#[]⟩, .string ⟨#[]⟩, .chan none, .int .i32 0, .int .u32 0, .slice none 0 0] 52)) w.heap.size [] none 0 :=
    ⟨heap_alloc_new _ _, World.ownsRow_nil _ _ _ _, fun q hq => (by cases hq), (Below.refl _ _).alloc (Nat.le_refl _) _, fun _ => ⟨rfl, rfl⟩⟩
  go_enter Yba.func5, Yba.ntmps5
  go_wp2_with fail
  go_loopw [4] (fun i wr => i = .int .i64 0 ∧ PSt w wr w.heap.size [] none 0) (fun i _ => 0)
  case atStart => exact ⟨rfl, P0⟩
  case round =>
    obtain ⟨rfl, L⟩ := hrel
    clear P0
    go_wp2_with fail
    go_ret
    exact ⟨w.heap.size, [], none, 0, rfl, Nat.le_refl _, rfl, L⟩
end Go.Proofs.Ybulkbtya
