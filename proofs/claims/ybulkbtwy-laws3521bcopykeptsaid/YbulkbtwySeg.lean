import Derived.Test.YbulkbtwyPlain
namespace Go.Proofs.Ybulkbtwy

/-- Where the k-th chunk's decisions begin. -/
def pos (cs : List Ck) (k : Nat) : Nat := (flatC (cs.take k)).length

theorem flatC_append (xs bs : List Ck) : flatC (xs ++ bs) = flatC xs ++ flatC bs := by simp [flatC]
theorem flatC_cons (c : Ck) (bs : List Ck) : flatC (c :: bs) = c.offs.map (c.base + ·) ++ flatC bs := rfl

theorem pos_zero (cs : List Ck) : pos cs 0 = 0 := by simp [pos, flatC]
theorem pos_all {cs : List Ck} {ds : List Nat} (h : Plain cs ds) : pos cs cs.length = ds.length := by simp [pos, h.flat]

theorem pos_succ (cs : List Ck) (k : Nat) (hk : k < cs.length) : pos cs (k + 1) = pos cs k + cs[k].offs.length := by
  unfold pos
  rw [List.take_succ_eq_append_getElem hk, flatC_append, List.length_append]
  simp [flatC]

theorem split_at (cs : List Ck) (k : Nat) (hk : k < cs.length) : flatC cs = flatC (cs.take k) ++ (cs[k].offs.map (cs[k].base + ·) ++ flatC (cs.drop (k + 1))) := by
  rw [← flatC_cons, ← flatC_append, List.getElem_cons_drop, List.take_append_drop]

structure Seg (ds : List Nat) (c : Ck) (i : Nat) : Prop where
  fits : i + c.offs.length ≤ ds.length
  some : 0 < c.offs.length
  at' : ∀ t, t < c.offs.length → ds.getD (i + t) 0 = c.base + c.offs.getD t 0
  low : ∀ t, t < c.offs.length → c.offs.getD t 0 < 4096
  high : ∀ j, i + c.offs.length ≤ j → j < ds.length → c.base + 4096 ≤ ds.getD j 0
  mul : c.base % 4096 = 0

theorem Plain.seg {cs : List Ck} {ds : List Nat} (h : Plain cs ds) (k : Nat) (hk : k < cs.length) : Seg ds cs[k] (pos cs k) := by
  have hsp := split_at cs k hk
  rw [h.flat] at hsp
  have hmem : cs[k] ∈ cs := List.getElem_mem hk
  have hl : ds.length = pos cs k + cs[k].offs.length + (flatC (cs.drop (k + 1))).length := by
    rw [hsp]; simp [pos]; omega
  refine ⟨by omega, ?_, ?_, ?_, ?_, h.mul _ hmem⟩
  · have := h.ne _ hmem
    exact List.length_pos_iff.2 this
  · intro t ht
    rw [hsp, List.getD_eq_getElem?_getD, List.getElem?_append_right (by unfold pos; omega)]
    rw [show pos cs k + t - (flatC (cs.take k)).length = t from by unfold pos; omega]
    rw [List.getElem?_append_left (by simpa using ht)]
    simp [ht]
  · intro t ht
    refine h.lt _ hmem _ ?_
    simp [ht]
  · intro j h1 h2
    have hj : ds.getD j 0 ∈ flatC (cs.drop (k + 1)) := by
      have e : ds.getD j 0 = (flatC (cs.drop (k + 1))).getD (j - (pos cs k + cs[k].offs.length)) 0 := by
        rw [hsp, List.getD_eq_getElem?_getD, List.getD_eq_getElem?_getD, List.getElem?_append_right (by unfold pos at h1; omega), List.getElem?_append_right (by simp; unfold pos at h1; omega)]
        simp only [List.length_map]
        rw [show j - (flatC (cs.take k)).length - cs[k].offs.length = j - (pos cs k + cs[k].offs.length) from by unfold pos; omega]
      rw [e]
      have hlt : j - (pos cs k + cs[k].offs.length) < (flatC (cs.drop (k + 1))).length := by omega
      simp [hlt]
    unfold flatC at hj
    rw [List.mem_flatMap] at hj
    obtain ⟨c', hc', hx⟩ := hj
    obtain ⟨o, ho, he⟩ := List.mem_map.1 hx
    have hc'' : c' ∈ cs := List.mem_of_mem_drop hc'
    have hlt : cs[k].base < c'.base := by
      have hp := h.inc
      rw [← List.take_append_drop k cs, List.pairwise_append] at hp
      have hp2 := hp.2.1
      rw [← List.getElem_cons_drop hk, List.pairwise_cons] at hp2
      exact hp2.1 c' hc'
    have m1 := h.mul _ hmem
    have m2 := h.mul _ hc''
    omega

theorem Plain.more_left {cs : List Ck} {ds : List Nat} (h : Plain cs ds) (k : Nat) (hk : k ≤ cs.length) : pos cs k < ds.length ↔ k < cs.length := by
  constructor
  · intro hlt
    rcases Nat.lt_or_ge k cs.length with h1 | h1
    · exact h1
    · have : k = cs.length := by omega
      subst this
      rw [pos_all h] at hlt
      omega
  · intro h1
    have s := h.seg k h1
    have := s.fits
    have := s.some
    omega

end Go.Proofs.Ybulkbtwy
