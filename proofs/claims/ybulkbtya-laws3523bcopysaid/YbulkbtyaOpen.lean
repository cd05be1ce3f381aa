import Derived.Test.YbulkbtyaCopy
import Derived.ProofKit
import Derived.SizedLaws
import Derived.Deep.Slices
import Derived.ChangeSlices
import Derived.OpenShut
set_option linter.unusedVariables false
namespace Go.Proofs.Ybulkbtya
open Go.RowKit Go.ChangeShapes Go.WideShapes

theorem Yba.cells29 : Yba.prog.cellsOf 29 = 4 := by kernel_rfl
theorem Yba.cells2 : Yba.prog.cellsOf 2 = 1 := by kernel_rfl
theorem Yba.cells9 : Yba.prog.cellsOf 9 = 1 := by kernel_rfl
theorem Yba.cells27 : Yba.prog.cellsOf 27 = 1 := by kernel_rfl
theorem Yba.cells5 : Yba.prog.cellsOf 5 = 1 := by kernel_rfl
theorem Yba.bytes5 : Yba.prog.bytesOf 5 = 1 := by kernel_rfl

theorem cell_lt {w : World} {a : Addr} {v : Value} (h : w.cell? a = some v) : a.block < w.heap.size := by
  unfold World.cell? at h
  cases hb : w.heap[a.block]? with
  | none => simp [hb] at h
  | some o => exact lt_of_blk hb

theorem add_ne (x : Addr) (j : Nat) (h : j ≠ 0) : x.add j = ⟨x.block, x.off + j, none⟩ := by
  unfold Addr.add
  rw [if_neg h]

section
variable {H : Type} {enc : TypeId × Value → H}

/-- One item. -/
theorem open_item {W : World} {fuel : Nat} {y : Addr} {cs : List Value} {d : DataW H} {pl : List MemPlace} (hc : W.cells? 0 y 4 = some cs) (h : DataW.trod enc Yba.prog W 0 (fun _ => true) true fuel 29 cs = some (d, pl))
    (hz : ∀ n ∈ d.weights Yba.prog 29, n ≤ reachBytes) :
    ∃ t : It, y.block < W.heap.size ∧ W.cell? y = some (.int .i64 t.ns) ∧ W.cell? ⟨y.block, y.off + 1, none⟩ = some (.string t.p) ∧ W.cell? ⟨y.block, y.off + 2, none⟩ = some (.string t.c) ∧ W.cell? ⟨y.block, y.off + 3, none⟩ = some (.slice t.ba t.bl t.bc) ∧
      -9223372036854775808 ≤ t.ns ∧ t.ns ≤ 9223372036854775807 ∧ t.p.size ≤ 140737488355328 ∧ BodyAt W t ∧ ∃ ns : List Int, t.zs = ns.map (Value.int .u8) := by
  have hreach := reachBytes_lt
  obtain ⟨_, hlen4, hcell⟩ := World.cells?_some hc
  obtain ⟨xs, n, _, hx, hl, hlen, hf⟩ := DataW.trod_struct Yba.underlying29 h
  match xs, hlen with
  | [y0, y1, y2, y3], _ =>
  match cs, hlen4 with
  | [v0, v1, v2, v3], _ =>
  have f0 := hf 0 _ rfl
  have f1 := hf 1 _ rfl
  have f2 := hf 2 _ rfl
  have f3 := hf 3 _ rfl
  simp [Yba.cells2, Yba.cells9, Yba.cells27] at f0 f1 f2 f3
  have k0 := hcell 0 (by omega)
  have k1 := hcell 1 (by omega)
  have k2 := hcell 2 (by omega)
  have k3 := hcell 3 (by omega)
  rw [add_ne y 1 (by decide)] at k1
  rw [add_ne y 2 (by decide)] at k2
  rw [add_ne y 3 (by decide)] at k3
  have k0' : W.cell? y = some v0 := by simpa [Addr.add] using k0
  simp at k1 k2 k3
  obtain ⟨ns, e0, rfl, wns⟩ := DataW.trod_int Yba.underlying2 f0
  obtain ⟨p, e1, rfl, hp⟩ := DataW.trod_string Yba.underlying9 f1
  obtain ⟨c, e2, rfl, hcz⟩ := DataW.trod_string Yba.underlying9 f2
  simp at e0 e1 e2
  subst e0 e1 e2
  simp only [Prod.mk.injEq] at hx
  obtain ⟨rfl, rfl⟩ := hx
  have hw : ∀ (j : Nat) (t : TypeId) (e : DataW H), ([2, 9, 9, 27] : List TypeId)[j]? = some t → ([(DataW.lit (Lit.int .i64 ns)), .lit (.string p.data.toList), .lit (.string c.data.toList), y3.1] : List (DataW H))[j]? = some e → ∀ n ∈ e.weights Yba.prog t, n ≤ reachBytes := fun j t e ht he n hn => by
    refine hz n ?_
    simp only [List.map_cons, List.map_nil, DataW.weights, Yba.underlying29]
    exact DataW.weights_mem_each ht he n hn
  have hps : p.size ≤ reachBytes := by
    have := hw 1 9 _ rfl rfl p.data.toList.length (by simp [DataW.weights])
    simpa using this
  have hb := bounds_i64 wns
  have hlt := cell_lt k0'
  rcases open_ints Yba.underlying27 Yba.underlying5 Yba.cells5 f3 with ⟨e3, _⟩ | ⟨a, len, cap, zs, e3, _, hlc, _, hzl, hy3, hzc, hzw⟩
  · simp at e3
    subst e3
    exact ⟨⟨ns, p, c, none, 0, 0, []⟩, hlt, k0', k1, k2, k3, hb.1, hb.2, by simp only; omega, Or.inl ⟨rfl, rfl, rfl, rfl⟩, [], rfl⟩
  · simp at e3 hzl
    subst e3
    have hbl : len ≤ reachBytes := by
      have := hw 3 27 y3.1 rfl rfl ((lits .u8 (zs.take len)).length + (lits .u8 (zs.drop len)).length) (by
        rw [hy3]
        simp [DataW.weights, Yba.underlying27, Yba.bytes5]
        exact Or.inl rfl)
      simp [lits] at this
      omega
    have hzs : ∀ j u, ((zs.take len).map (Value.int .u8))[j]? = some u → W.cell? (a.add j) = some u := fun j u hj => by
      rw [List.getElem?_map] at hj
      obtain ⟨z, hz1, rfl⟩ := Option.map_eq_some_iff.1 hj
      have hjl : j < len := by
        have := (List.getElem?_eq_some_iff.1 hz1).1
        simp at this
        omega
      rw [List.getElem?_take_of_lt hjl] at hz1
      have := hzc j (by omega)
      rw [List.getD_eq_getElem?_getD, hz1] at this
      exact this
    refine ⟨⟨ns, p, c, some a, len, cap, (zs.take len).map (Value.int .u8)⟩, hlt, k0', k1, k2, k3, hb.1, hb.2, by simp only; omega, Or.inr ⟨a, rfl, fun hn => ?_, ?_, hzs, ?_, by simp only; omega⟩, _, rfl⟩
    · have := cell_lt (hzc 0 (by simp only at hn; omega))
      simpa [Addr.add] using this
    · simp
      omega
    · intro u hu
      obtain ⟨z, _, rfl⟩ := List.mem_map.1 hu
      rfl

theorem weights_all {P : Program} {e : TypeId} : ∀ {l : List (DataW H)} {d : DataW H} {n : Nat}, d ∈ l → n ∈ d.weights P e → n ∈ DataW.weightsAll P e l
  | d0 :: l, d, n, hd, hn => by
    simp only [DataW.weightsAll, List.mem_append]
    rcases List.mem_cons.1 hd with rfl | hd
    · exact Or.inl hn
    · exact Or.inr (weights_all hd hn)

theorem open_items {W : World} {fuel : Nat} {cs : List Value} {x : DataW H × List MemPlace} (h : DataW.trod enc Yba.prog W 0 (fun _ => true) true fuel 22 cs = some x) (hz : ∀ n ∈ x.1.weights Yba.prog 22, n ≤ reachBytes) :
    ∃ a len cap its, cs = [.slice a len cap] ∧ IsItems W a len cap its ∧ ∀ t ∈ its, ∃ ns : List Int, t.zs = ns.map (Value.int .u8) := by
  rcases Deep.open_slice Yba.underlying22 h with ⟨rfl, _⟩ | ⟨a, len, cap, m, n, D, Pl, rfl, _, hlc, _, hm, rfl, hx⟩
  · exact ⟨none, 0, 0, [], rfl, ⟨rfl, Or.inl ⟨rfl, rfl, rfl⟩⟩, fun t ht => by cases ht⟩
  · have hmc : m = cap := by simpa using hm
    have hi : ∀ i, i < len → ∃ t : It, ItemAt W a i t ∧ ∃ ns : List Int, t.zs = ns.map (Value.int .u8) := fun i hi => by
      obtain ⟨cs', h1, h2⟩ := hx i (by omega)
      rw [Yba.cells29] at h1
      obtain ⟨t, q1, q2, q3, q4, q5, q6, q7, q8, q9, q10⟩ := open_item h1 h2 (fun n hn => hz n (by
        simp only [DataW.weights, Yba.underlying22, List.mem_cons, List.mem_append]
        exact Or.inr (Or.inl (weights_all (List.mem_map.2 ⟨i, List.mem_range.2 hi, rfl⟩) hn))))
      rw [add_block] at q1
      exact ⟨t, ⟨q1, q2, q3, q4, q5, q6, q7, q8, q9⟩, q10⟩
    haveI : Inhabited It := ⟨⟨0, ⟨#[]⟩, ⟨#[]⟩, none, 0, 0, []⟩⟩
    obtain ⟨f, hf⟩ := Deep.choose_lt hi
    refine ⟨some a, len, cap, (List.range len).map f, rfl, ⟨by simp, Or.inr ⟨a, rfl, fun i t ht => ?_⟩⟩, fun t ht => ?_⟩
    · rw [List.getElem?_map] at ht
      obtain ⟨j, hj, rfl⟩ := Option.map_eq_some_iff.1 ht
      obtain ⟨hj1, hj2⟩ := List.getElem?_eq_some_iff.1 hj
      simp at hj1 hj2
      subst hj2
      exact (hf i hj1).1
    · obtain ⟨j, hj, rfl⟩ := List.mem_map.1 ht
      exact (hf j (List.mem_range.1 hj)).2
end
end Go.Proofs.Ybulkbtya
