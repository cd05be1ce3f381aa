import Derived.Test.YbulkbtwyOwn
import Derived.Test.YbulkbtwyPlain
set_option linter.unusedVariables false
namespace Go.Proofs.Ybulkbtwy
open Go.RowKit

theorem ptrs_snoc (cs : List Ck) (c : Ck) : ptrs (cs ++ [c]) = ptrs cs ++ [.pointer (some ⟨c.p, 0, none⟩)] := by simp [ptrs]
theorem bases_snoc (cs : List Ck) (c : Ck) : bases (cs ++ [c]) = bases cs ++ [.int .i32 (c.base : Int)] := by simp [bases]

def SetPost (w w' : World) (kb : Nat) (cv sv cv' sv' : Value) : Prop :=
  Chg (fun k => k = kb ∨ cv.ownBlock = some k ∨ sv.ownBlock = some k) w w' ∧ (∀ k, cv'.ownBlock = some k → cv.ownBlock = some k ∨ w.heap.size ≤ k) ∧ (∀ k, sv'.ownBlock = some k → sv.ownBlock = some k ∨ w.heap.size ≤ k)

/-- append, of a decision behind the last chunk's span. -/
theorem set_new {w : World} {kb B M : Nat} {low hi : List Ck} {cv sv : Value} {n : Nat} (S : SetAt w kb B M low hi cv sv n) (d b o : Nat) (hd : d = b + o) (hb : b % 4096 = 0) (ho : o < 4096) (hdl : d < 1073741824) (hn : n ≤ 1000000)
    (hN : (low ++ hi).length ≤ 1000000) (hlast : ∀ y, (low ++ hi).getLast? = some y → y.base ≠ b) :
    Calls Yba.prog 9 #[.pointer (some ⟨kb, 0, none⟩), .int .i32 (d : Int)] w fun e w' => e = .returned (.tuple #[]) ∧
      ∃ p cv' sv', SetAt w' kb B w.heap.size (low ++ hi) [⟨p, .pointer (some ⟨kb, 0, none⟩), b, [o]⟩] cv' sv' (n + 1) ∧ SetPost w w' kb cv sv cv' sv' := by
  have hclr : bits .andNot .i32 (d : Int) 4095 = (b : Int) := by rw [i32_clear d (by omega), show d - d % 4096 = b from by omega]
  have hsub : (d : Int) - (b : Int) = (o : Int) := by omega
  obtain ⟨N, hNe⟩ : ∃ N, N = (low ++ hi).length := ⟨_, rfl⟩
  have hch := S.chs
  have hbs := S.bss
  have hblk := S.blk
  rw [← hNe] at hch hbs hN
  have fin : ∀ (e : Ending) (w' : World), (e = .returned (.tuple #[]) ∧ NewPost w w' kb B n b o N cv sv (ptrs (low ++ hi)) (bases (low ++ hi))) → e = .returned (.tuple #[]) ∧
      ∃ p cv' sv', SetAt w' kb B w.heap.size (low ++ hi) [⟨p, .pointer (some ⟨kb, 0, none⟩), b, [o]⟩] cv' sv' (n + 1) ∧ SetPost w w' kb cv sv cv' sv' := by
    rintro e w' ⟨he, p, cv', sv', h1, h2, h3, h4, h5, h6, h7⟩
    refine ⟨he, p, cv', sv', ⟨h1, ?_, ?_, ?_, ?_, h5.size, by have := h5.size; have := S.hB; omega⟩, h5, h6, h7⟩
    · rw [List.length_append, ptrs_snoc, ← hNe]; exact h2
    · rw [List.length_append, bases_snoc, ← hNe]; exact h3
    · intro c hc
      have hcl := S.clear w.heap.size
      rcases List.mem_append.1 hc with hc | hc
      · exact ((S.lows c hc).mono S.hM).keep h5 hcl
      · exact (S.his c hc).low.keep h5 hcl
    · intro c hc
      have := List.mem_singleton.1 hc
      subst this
      exact h4
  rcases Nat.eq_zero_or_pos N with h0 | h0
  · subst h0
    obtain ⟨ca, cc, rfl⟩ : ∃ a c, cv = .slice a 0 c := by
      rcases owns_form hch with ⟨h, _, _⟩ | ⟨g, c, h, _⟩
      · exact ⟨_, _, h⟩
      · exact ⟨_, _, h⟩
    obtain ⟨sa, sc, rfl⟩ : ∃ a c, sv = .slice a 0 c := by
      rcases owns_form hbs with ⟨h, _, _⟩ | ⟨g, c, h, _⟩
      · exact ⟨_, _, h⟩
      · exact ⟨_, _, h⟩
    exact (append_new0 kb B n d b o _ _ w ca sa cc sc hblk hch hbs hclr hsub (by omega) ho hdl hn S.hB).mono fin
  · obtain ⟨ca, cc, rfl⟩ : ∃ a c, cv = .slice a N c := by
      rcases owns_form hch with ⟨h, h', _⟩ | ⟨g, c, h, _⟩
      · omega
      · exact ⟨_, _, h⟩
    obtain ⟨gs, sc, rfl⟩ : ∃ g c, sv = .slice (some ⟨g, 0, none⟩) N c := by
      rcases owns_form hbs with ⟨_, h', _⟩ | ⟨g, c, h, _⟩
      · omega
      · exact ⟨g, c, h⟩
    obtain ⟨init, y, hy⟩ : ∃ init y, low ++ hi = init ++ [y] := by
      rcases List.eq_nil_or_concat (low ++ hi) with h | ⟨init, y, h⟩
      · rw [h] at hNe; simp at hNe; omega
      · exact ⟨init, y, by simpa using h⟩
    have hyb := hlast y (by rw [hy]; simp)
    have hcell : w.cell? ⟨gs, N - 1, none⟩ = some (.int .i32 (y.base : Int)) := by
      rw [hbs.cellAt (N - 1) (by omega), hy, bases_snoc]
      have : N - 1 = (bases init).length := by rw [hNe, hy]; simp [bases]
      rw [this, List.getElem?_append_right (Nat.le_refl _)]
      simp
    exact (append_newN kb B N n d b o gs y.base _ _ w ca cc sc hblk hch hbs h0 hN hcell (by simp; omega) hclr hsub (by omega) ho hdl hn S.hB).mono fin

/-- append, of a decision in the span of the last chunk, which is the set's own. -/
theorem set_own {w : World} {kb B M : Nat} {low : List Ck} {c : Ck} {cv sv : Value} {n : Nat} (S : SetAt w kb B M low [c] cv sv n) (d o : Nat) (hd : d = c.base + o) (hb : c.base % 4096 = 0) (ho : o < 4096) (hdl : d < 1073741824) (hn : n ≤ 1000000)
    (hN : (low ++ [c]).length ≤ 1000000) (how : c.ow = .pointer (some ⟨kb, 0, none⟩)) (hoffs : ∀ x ∈ c.offs, x < 4096) (hlen : c.offs.length ≤ 1000000) :
    Calls Yba.prog 9 #[.pointer (some ⟨kb, 0, none⟩), .int .i32 (d : Int)] w fun e w' => e = .returned (.tuple #[]) ∧
      SetAt w' kb B M low [{ c with offs := c.offs ++ [o] }] cv sv (n + 1) ∧ Chg (fun k => k = kb ∨ M ≤ k ∧ cv.ownBlock ≠ some k ∧ sv.ownBlock ≠ some k) w w' := by
  have hclr : bits .andNot .i32 (d : Int) 4095 = (c.base : Int) := by rw [i32_clear d (by omega), show d - d % 4096 = c.base from by omega]
  have hsub : (d : Int) - (c.base : Int) = (o : Int) := by omega
  have hNe : (low ++ [c]).length = low.length + 1 := by simp
  have hch := S.chs
  have hbs := S.bss
  have hblk := S.blk
  rw [hNe] at hch hbs hN
  obtain ⟨gc, cc, rfl⟩ : ∃ g k, cv = .slice (some ⟨g, 0, none⟩) (low.length + 1) k := by
    rcases owns_form hch with ⟨h, h', _⟩ | ⟨g, c, h, _⟩
    · omega
    · exact ⟨_, _, h⟩
  obtain ⟨gs, sc, rfl⟩ : ∃ g k, sv = .slice (some ⟨g, 0, none⟩) (low.length + 1) k := by
    rcases owns_form hbs with ⟨_, h', _⟩ | ⟨g, c, h, _⟩
    · omega
    · exact ⟨g, c, h⟩
  have hlast : w.cell? ⟨gs, low.length + 1 - 1, none⟩ = some (.int .i32 (c.base : Int)) := by
    rw [hbs.cellAt _ (by omega), bases_snoc]
    have : low.length + 1 - 1 = (bases low).length := by simp [bases]
    rw [this, List.getElem?_append_right (Nat.le_refl _)]
    simp
  have hptr : w.cell? ⟨gc, low.length + 1 - 1, none⟩ = some (.pointer (some ⟨c.p, 0, none⟩)) := by
    rw [hch.cellAt _ (by omega), ptrs_snoc]
    have : low.length + 1 - 1 = (ptrs low).length := by simp [ptrs]
    rw [this, List.getElem?_append_right (Nat.le_refl _)]
    simp
  obtain ⟨hMp, lv, bv, hck⟩ := S.his c (by simp)
  refine (append_own kb B M (low.length + 1) n d c.base o gs gc sc cc c lv bv w hblk (by omega) hN hlast hptr hck how hoffs hlen S.hM hclr hsub (by omega) ho hdl hn).mono fun e w' h => ?_
  obtain ⟨he, w1, lv', bv', hck1, hch1, rfl⟩ := h
  have hrow : ∀ k, (k = c.p ∨ lv.ownBlock = some k ∨ bv.ownBlock = some k) → M ≤ k ∧ ∃ cur T, w.heap[k]? = some (.cells cur T (0, 0)) ∧ T ≠ 39 ∧ T ≠ 47 ∧ T ≠ 21 := by
    intro k hk
    rcases hk with rfl | hk | hk
    · exact ⟨hMp, _, _, hck.1, by decide, by decide, by decide⟩
    · obtain ⟨cur, e⟩ := hck.lrow hk
      refine ⟨?_, _, _, e, by decide, by decide, by decide⟩
      rcases hck.2 with ⟨_, _, d⟩ | ⟨_, rfl, _⟩
      · exact (owns_lt d k hk).1
      · cases hk
    · obtain ⟨cur, e⟩ := hck.brow hk
      refine ⟨?_, _, _, e, by decide, by decide, by decide⟩
      rcases hck.2 with ⟨_, rfl, _⟩ | ⟨_, _, d⟩
      · cases hk
      · exact (owns_lt d k hk).1
  have hnkb : ¬ (kb = c.p ∨ lv.ownBlock = some kb ∨ bv.ownBlock = some kb) := fun h => by
    obtain ⟨_, cur, T, e, n1, _⟩ := hrow kb h
    rw [hblk] at e
    simp only [Option.some.injEq, Obj.cells.injEq] at e
    exact n1 e.2.1.symm
  have hb1 : w1.heap[kb]? = _ := (hch1.block kb (lt_of_blk hblk) hnkb).trans hblk
  have ha : Chg (fun k => (k = c.p ∨ lv.ownBlock = some k ∨ bv.ownBlock = some k) ∨ k = kb) w (w1.setCell ⟨kb, 2, none⟩ (.int .i64 ((n : Int) + 1))) :=
    (show Chg (fun k => (k = c.p ∨ lv.ownBlock = some k ∨ bv.ownBlock = some k) ∨ k = kb) w w1 from hch1.mono (fun _ _ h => Or.inl h)).setCell (p := ⟨kb, 2, none⟩) (fun _ => Or.inr rfl) _
  have hend : Chg (fun k => k = kb) w1 (w1.setCell ⟨kb, 2, none⟩ (.int .i64 ((n : Int) + 1))) := (Chg.refl (fun k => k = kb) w1).setCell (fun _ => rfl) _
  have hkc : ∀ k, (k = c.p ∨ lv.ownBlock = some k ∨ bv.ownBlock = some k) ∨ k = kb → ∀ {B e n xs v}, w.ownsRow B e 1 v n xs → (e = 47 ∨ e = 21) → v.ownBlock ≠ some k := by
    intro k hk B e n xs v hv he
    rcases hk with hk | rfl
    · obtain ⟨_, cur, T, e1, _, n2, n3⟩ := hrow k hk
      refine row_apart hv e1 (fun h => ?_)
      rcases he with he | he
      · exact n2 (h.trans he)
      · exact n3 (h.trans he)
    · exact row_apart hv hblk (by rcases he with rfl | rfl <;> decide)
  refine ⟨he, ⟨?_, ?_, ?_, ?_, ?_, by have := ha.size; have := S.hM; omega, by have := ha.size; have := S.hB; omega⟩, ?_⟩
  · rw [set_set2 hb1 _]; simp
  · have := ha.owns S.chs (fun k hk h => hkc k h S.chs (Or.inl rfl) hk)
    simpa [ptrs] using this
  · have := ha.owns S.bss (fun k hk h => hkc k h S.bss (Or.inr rfl) hk)
    simpa [bases] using this
  · intro x hx
    refine (S.lows x hx).keep ha (fun k hk h => ?_)
    rcases h with h | rfl
    · have := (hrow k h).1
      omega
    · exact ⟨_, _, _, hblk, by decide, by decide, by decide⟩
  · intro x hx
    have := List.mem_singleton.1 hx
    subst this
    refine ⟨hMp, lv', bv', hck1.keep hend ?_ (fun k hk h => ?_) (fun k hk h => ?_)⟩
    · intro h
      have e := hck1.1
      have h' : c.p = kb := h
      rw [show ({ c with offs := c.offs ++ [o] } : Ck).p = c.p from rfl, h', hb1] at e
      simp at e
    · obtain ⟨cur, e⟩ := hck1.lrow hk
      rw [h, hb1] at e
      simp at e
    · obtain ⟨cur, e⟩ := hck1.brow hk
      rw [h, hb1] at e
      simp at e
  · refine ha.mono (fun k _ h => ?_)
    rcases h with h | h
    · refine Or.inr ⟨(hrow k h).1, hkc k (Or.inl h) S.chs (Or.inl rfl), hkc k (Or.inl h) S.bss (Or.inr rfl)⟩
    · exact Or.inl h

end Go.Proofs.Ybulkbtwy
