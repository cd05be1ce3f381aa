import Derived.Test.YbulkbtwyChunk
namespace Go.Proofs.Ybulkbtwy

def flatC (cs : List Ck) : List Nat := cs.flatMap fun c => c.offs.map (c.base + ·)

/-- The chunks hold just ds, span by span. -/
structure Plain (cs : List Ck) (ds : List Nat) : Prop where
  flat : flatC cs = ds
  ne : ∀ c ∈ cs, c.offs ≠ []
  lt : ∀ c ∈ cs, ∀ o ∈ c.offs, o < 4096
  mul : ∀ c ∈ cs, c.base % 4096 = 0
  inc : List.Pairwise (fun a b : Ck => a.base < b.base) cs

theorem Plain.nil : Plain [] [] := ⟨rfl, by simp, by simp, by simp, List.Pairwise.nil⟩

theorem flatC_snoc (cs : List Ck) (c : Ck) : flatC (cs ++ [c]) = flatC cs ++ c.offs.map (c.base + ·) := by simp [flatC]

/-- A decision in the last chunk's span. -/
theorem Plain.more {cs : List Ck} {c : Ck} {ds : List Nat} (h : Plain (cs ++ [c]) ds) (o : Nat) (ho : o < 4096) : Plain (cs ++ [{ c with offs := c.offs ++ [o] }]) (ds ++ [c.base + o]) := by
  have hf := h.flat
  rw [flatC_snoc] at hf
  refine ⟨?_, ?_, ?_, ?_, ?_⟩
  · rw [flatC_snoc, ← hf]; simp
  · intro x hx
    rcases List.mem_append.1 hx with hx | hx
    · exact h.ne x (List.mem_append_left _ hx)
    · have := List.mem_singleton.1 hx
      subst this
      simp
  · intro x hx y hy
    rcases List.mem_append.1 hx with hx | hx
    · exact h.lt x (List.mem_append_left _ hx) y hy
    · have := List.mem_singleton.1 hx
      subst this
      rcases List.mem_append.1 hy with hy | hy
      · exact h.lt c (by simp) y hy
      · have := List.mem_singleton.1 hy
        omega
  · intro x hx
    rcases List.mem_append.1 hx with hx | hx
    · exact h.mul x (List.mem_append_left _ hx)
    · have := List.mem_singleton.1 hx
      subst this
      exact h.mul c (by simp)
  · have hp := h.inc
    rw [List.pairwise_append] at hp ⊢
    refine ⟨hp.1, by simp, fun a ha b hb => ?_⟩
    have := List.mem_singleton.1 hb
    subst this
    exact hp.2.2 a ha c (by simp)

/-- A decision behind the last chunk's span. -/
theorem Plain.next {cs : List Ck} {ds : List Nat} (h : Plain cs ds) (c : Ck) (o : Nat) (ho : o < 4096) (hc : c.offs = [o]) (hb : c.base % 4096 = 0) (hbig : ∀ x ∈ ds, x < c.base + o) (hlast : ∀ y, cs.getLast? = some y → y.base ≠ c.base) :
    Plain (cs ++ [c]) (ds ++ [c.base + o]) := by
  refine ⟨?_, ?_, ?_, ?_, ?_⟩
  · rw [flatC_snoc, h.flat, hc]; simp
  · intro x hx
    rcases List.mem_append.1 hx with hx | hx
    · exact h.ne x hx
    · have := List.mem_singleton.1 hx
      subst this
      simp [hc]
  · intro x hx y hy
    rcases List.mem_append.1 hx with hx | hx
    · exact h.lt x hx y hy
    · have := List.mem_singleton.1 hx
      subst this
      rw [hc] at hy
      have := List.mem_singleton.1 hy
      omega
  · intro x hx
    rcases List.mem_append.1 hx with hx | hx
    · exact h.mul x hx
    · have := List.mem_singleton.1 hx
      subst this
      exact hb
  · rw [List.pairwise_append]
    refine ⟨h.inc, by simp, fun a ha b hb' => ?_⟩
    have := List.mem_singleton.1 hb'
    subst this
    -- the last chunk lies below; so do all
    rcases List.eq_nil_or_concat cs with rfl | ⟨init, y, rfl⟩
    · simp at ha
    · have hy : y ∈ init.concat y := by simp
      obtain ⟨o', ho'⟩ := List.exists_mem_of_ne_nil _ (h.ne y hy)
      have hmem : y.base + o' ∈ ds := by
        rw [← h.flat]
        unfold flatC
        rw [List.mem_flatMap]
        exact ⟨y, hy, List.mem_map.2 ⟨o', ho', rfl⟩⟩
      have h1 := hbig _ hmem
      have h2 := h.mul y hy
      have h3 := hlast y (by simp)
      have h4 : y.base < b.base := by omega
      have hp := h.inc
      rw [List.concat_eq_append, List.pairwise_append] at hp
      rw [List.concat_eq_append] at ha
      rcases List.mem_append.1 ha with ha | ha
      · have := hp.2.2 a ha y (by simp)
        omega
      · have := List.mem_singleton.1 ha
        subst this
        exact h4

theorem mem_flatC {cs : List Ck} {c : Ck} {o : Nat} (hc : c ∈ cs) (ho : o ∈ c.offs) : c.base + o ∈ flatC cs := by
  unfold flatC
  rw [List.mem_flatMap]
  exact ⟨c, hc, List.mem_map.2 ⟨o, ho, rfl⟩⟩

theorem flatC_length (cs : List Ck) : (flatC cs).length = (cs.map fun c => c.offs.length).sum := by
  induction cs with
  | nil => rfl
  | cons c cs ih =>
    have : flatC (c :: cs) = c.offs.map (c.base + ·) ++ flatC cs := rfl
    rw [this, List.length_append, ih]
    simp

theorem Plain.count {cs : List Ck} {ds : List Nat} (h : Plain cs ds) : cs.length ≤ ds.length := by
  rw [← h.flat, flatC_length]
  have hne := h.ne
  clear h
  induction cs with
  | nil => simp
  | cons c cs ih =>
    have h1 := ih (fun x hx => hne x (List.mem_cons_of_mem _ hx))
    have h2 : 0 < c.offs.length := List.length_pos_iff.2 (hne c (by simp))
    simp only [List.length_cons, List.map_cons, List.sum_cons]
    omega

theorem Plain.offs_le {cs : List Ck} {ds : List Nat} (h : Plain cs ds) (c : Ck) (hc : c ∈ cs) : c.offs.length ≤ ds.length := by
  rw [← h.flat, flatC_length]
  clear h
  induction cs with
  | nil => cases hc
  | cons x cs ih =>
    simp only [List.map_cons, List.sum_cons]
    rcases List.mem_cons.1 hc with rfl | hc
    · omega
    · have := ih hc
      omega

end Go.Proofs.Ybulkbtwy
