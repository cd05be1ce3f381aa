import Derived.Test.YbulkbtwyBuild
set_option linter.unusedVariables false
namespace Go.Proofs.Ybulkbtwy
open Go.RowKit

/-- The set behind m appends: wb, the world when it was made. -/
structure LSt (wb : World) (kb : Nat) (ds : List Nat) (m : Nat) (wr : World) : Prop where
  ex : ∃ M low hi cv sv, SetAt wr kb (kb + 1) M low hi cv sv m ∧ Plain (low ++ hi) (ds.take m) ∧ (∀ c ∈ low ++ hi, c.ow = .pointer (some ⟨kb, 0, none⟩) ∧ kb < c.p) ∧ ((hi = [] ∧ low = []) ∨ ∃ c, hi = [c]) ∧ kb < M
  bel : Below kb wb wr

theorem take_more (ds : List Nat) (m : Nat) (hm : m < ds.length) : ds.take (m + 1) = ds.take m ++ [ds.getD m 0] := by
  rw [List.take_succ_eq_append_getElem hm]; simp [hm]

theorem take_lt (ds : List Nat) (m : Nat) (hm : m < ds.length) (hinc : List.Pairwise (· < ·) ds) : ∀ x ∈ ds.take m, x < ds.getD m 0 := by
  intro x hx
  rw [← List.take_append_drop m ds, List.pairwise_append] at hinc
  refine hinc.2.2 x hx _ ?_
  have e1 : ds.drop m = ds[m] :: ds.drop (m + 1) := (List.getElem_cons_drop hm).symm
  have e2 : ds.getD m 0 = ds[m] := by simp [hm]
  rw [e1, e2]
  exact List.mem_cons_self

theorem getD_lt {ds : List Nat} {t : Nat} (h : ∀ d ∈ ds, d < t) (ht : 0 < t) (i : Nat) : ds.getD i 0 < t := by
  by_cases hi : i < ds.length
  · exact h _ (by simp [hi])
  · rw [List.getD_eq_getElem?_getD, List.getElem?_eq_none (by omega)]; exact ht

theorem last_of {low hi : List Ck} {c : Ck} (h : hi = [c]) : (low ++ hi).getLast? = some c := by subst h; simp

theorem LSt.step {wb : World} {kb : Nat} {ds : List Nat} {m : Nat} {wr : World} (h : LSt wb kb ds m wr) (hkb : kb ≤ wb.heap.size) (hm : m < ds.length) (hinc : List.Pairwise (· < ·) ds) (htop : ∀ d ∈ ds, d < 400000) (hlen : ds.length ≤ 16384) :
    Calls Yba.prog 9 #[.pointer (some ⟨kb, 0, none⟩), .int .i32 ((ds.getD m 0 : Nat) : Int)] wr fun e w' => e = .returned (.tuple #[]) ∧ LSt wb kb ds (m + 1) w' := by
  obtain ⟨⟨M, low, hi, cv, sv, S, hp, how, hsh, hM⟩, hbel⟩ := h
  have hd := getD_lt htop (by omega) m
  have hbig := take_lt ds m hm hinc
  have htk := take_more ds m hm
  have hcnt := hp.count
  have hcl : (low ++ hi).length ≤ 1000000 := by rw [List.length_take] at hcnt; omega
  have hkr : kb ≤ wr.heap.size := by have := lt_of_blk S.blk; omega
  obtain ⟨d, hde⟩ : ∃ d, d = ds.getD m 0 := ⟨_, rfl⟩
  rw [← hde] at hd hbig htk ⊢
  have hdm : d = (d - d % 4096) + d % 4096 := by omega
  by_cases hlast : ∃ c, hi = [c] ∧ c.base = d - d % 4096
  · obtain ⟨c, rfl, hcb⟩ := hlast
    have hmem : c ∈ low ++ [c] := by simp
    refine (set_own S d (d % 4096) (by omega) (hp.mul c hmem) (by omega) (by omega) (by omega) hcl (how c hmem).1 (hp.lt c hmem) (by have := hp.offs_le c hmem; rw [List.length_take] at this; omega)).mono fun e w' hh => ?_
    obtain ⟨he, S', hch⟩ := hh
    have hp' := hp.more (d % 4096) (by omega)
    rw [hcb, ← hdm, ← htk] at hp'
    refine ⟨he, ⟨M, low, _, cv, sv, S', by rw [hcb]; exact hp', ?_, Or.inr ⟨_, rfl⟩, hM⟩, hbel.trans (hch.below hkr (fun k hk => by rcases hk with h | h <;> omega))⟩
    intro x hx
    rcases List.mem_append.1 hx with hx | hx
    · exact how x (List.mem_append_left _ hx)
    · have := List.mem_singleton.1 hx
      subst this
      exact how c hmem
  · have hne : ∀ y, (low ++ hi).getLast? = some y → y.base ≠ d - d % 4096 := by
      intro y hy hb
      rcases hsh with ⟨h1, h2⟩ | ⟨c, hc⟩
      · rw [h1, h2] at hy
        simp at hy
      · rw [last_of hc] at hy
        have := Option.some.inj hy
        subst this
        exact hlast ⟨c, hc, hb⟩
    refine (set_new S d (d - d % 4096) (d % 4096) hdm (by omega) (by omega) (by omega) (by omega) hcl hne).mono fun e w' hh => ?_
    obtain ⟨he, p, cv', sv', S', hch, f1, f2⟩ := hh
    have hp' := hp.next ⟨p, .pointer (some ⟨kb, 0, none⟩), d - d % 4096, [d % 4096]⟩ (d % 4096) (by omega) rfl (by show (d - d % 4096) % 4096 = 0; omega) (fun x hx => by have := hbig x hx; show x < d - d % 4096 + d % 4096; omega) hne
    simp only at hp'
    rw [← hdm, ← htk] at hp'
    refine ⟨he, ⟨wr.heap.size, _, _, cv', sv', S', hp', ?_, Or.inr ⟨_, rfl⟩, lt_of_blk S.blk⟩, hbel.trans (hch.below hkr (fun k hk => ?_))⟩
    · intro x hx
      rcases List.mem_append.1 hx with hx | hx
      · exact how x hx
      · have := List.mem_singleton.1 hx
        subst this
        exact ⟨rfl, Nat.lt_of_lt_of_le (lt_of_blk S.blk) (S'.his _ hx).1⟩
    · rcases hk with h | h | h
      · omega
      · have := (owns_lt S.chs k h).1; omega
      · have := (owns_lt S.bss k h).1; omega

theorem lst_start (wb : World) (ds : List Nat) : LSt wb wb.heap.size ds 0 (wb.alloc (.cells #[.slice none 0 0, .slice none 0 0, .int .i64 0] 39)) :=
  ⟨⟨wb.heap.size + 1, [], [], .slice none 0 0, .slice none 0 0, ⟨heap_alloc_new wb _, World.ownsRow_nil _ _ _ _, World.ownsRow_nil _ _ _ _, by simp, by simp, by simp, by simp⟩, by simpa using Plain.nil, by simp, Or.inl ⟨rfl, rfl⟩, by omega⟩,
    (Below.refl _ _).alloc (Nat.le_refl _) _⟩

end Go.Proofs.Ybulkbtwy
