import Derived.Test.YbulkbtwyOwnC
set_option linter.unusedVariables false
namespace Go.Proofs.Ybulkbtwy
open Go.RowKit

set_option maxRecDepth 100000 in
set_option maxHeartbeats 400000 in
theorem append_copy (kb B m : Nat) (n d o gs0 gc sc cc : Nat) (c : Ck) (la ba : Option Addr) (ln lc bn bc : Nat) (lx bx xs : List Value) (w : World)
    (hblk : w.heap[kb]? = some (.cells #[.slice (some ⟨gc, 0, none⟩) (m + 1) cc, .slice (some ⟨gs0, 0, none⟩) (m + 1) sc, .int .i64 (n : Int)] 39 (0, 0)))
    (hNm : m + 1 ≤ 1000000) (hcv : w.ownsRow B 47 1 (.slice (some ⟨gc, 0, none⟩) (m + 1) cc) (m + 1) xs)
    (hlast : w.cell? ⟨gs0, m, none⟩ = some (.int .i32 (c.base : Int))) (hptr : w.cell? ⟨gc, m, none⟩ = some (.pointer (some ⟨c.p, 0, none⟩)))
    (hck : w.heap[c.p]? = some (.cells #[.pointer none, .int .i32 (c.base : Int), .int .i32 (c.offs.length : Int), .slice la ln lc, .slice ba bn bc] 51 (0, 0))) (R : Rows2 w c.offs la ba ln lc bn bc lx bx)
    (hoffs : ∀ x ∈ c.offs, x < 4096) (hlen : c.offs.length ≤ 1000000)
    (hclr : bits .andNot .i32 (d : Int) 4095 = (c.base : Int)) (hsub : (d : Int) - (c.base : Int) = (o : Int)) (hbd : c.base ≤ d) (ho : o < 4096) (hd : d < 1073741824) (hn : n ≤ 1000000) :
    Calls Yba.prog 9 #[.pointer (some ⟨kb, 0, none⟩), .int .i32 (d : Int)] w fun e w' => e = .returned (.tuple #[]) ∧ ∃ p w2 lv bv, CkAt w2 w.heap.size ⟨p, .pointer (some ⟨kb, 0, none⟩), c.base, c.offs ++ [o]⟩ lv bv ∧ w.heap.size ≤ p ∧
      Chg (fun k => k = gc) w w2 ∧ w2.ownsRow B 47 1 (.slice (some ⟨gc, 0, none⟩) (m + 1) cc) (m + 1) (xs.set m (.pointer (some ⟨p, 0, none⟩))) ∧ w2.heap[kb]? = w.heap[kb]? ∧ w' = w2.setCell ⟨kb, 2, none⟩ (.int .i64 ((n : Int) + 1)) := by
  obtain ⟨hc0, hc1, hc2, hfz⟩ := set_cells hblk
  have hkl := lt_of_blk hblk
  have hgk : gc ≠ kb := fun h => row_apart hcv hblk (by decide) (by rw [h]; rfl)
  have HB := show Hid (w.heap[kb]? = some (.cells #[.slice (some ⟨gc, 0, none⟩) (m + 1) cc, .slice (some ⟨gs0, 0, none⟩) (m + 1) sc, .int .i64 (n : Int)] 39 (0, 0))) from hblk
  have HCV := show Hid (w.ownsRow B 47 1 (.slice (some ⟨gc, 0, none⟩) (m + 1) cc) (m + 1) xs) from hcv
  have HCK := show Hid (w.heap[c.p]? = some (.cells #[.pointer none, .int .i32 (c.base : Int), .int .i32 (c.offs.length : Int), .slice la ln lc, .slice ba bn bc] 51 (0, 0))) from hck
  have HR := show Hid (Rows2 w c.offs la ba ln lc bn bc lx bx) from R
  clear hblk hck R hcv
  go_enter Yba.func9, Yba.ntmps9
  go_wp2_with fail
  refine (own_copy kb gc cc m (m + 1) c la ba ln lc bn bc lx bx B xs w HCV.out hc0 (by omega) hNm hkl hptr HCK.out HR.out).mono ?_
  rintro e w1 ⟨p, lv, bv, rfl, hck1, hp1, hch1, hcv1⟩
  have hs1 := hch1.size
  have HC1 := show Hid (CkAt w1 w.heap.size ⟨p, .pointer (some ⟨kb, 0, none⟩), c.base, c.offs⟩ lv bv) from hck1
  have HG1 := show Hid (Chg (fun j => j = gc) w w1) from hch1
  have HV1 := show Hid (w1.ownsRow B 47 1 (.slice (some ⟨gc, 0, none⟩) (m + 1) cc) (m + 1) (xs.set m (.pointer (some ⟨p, 0, none⟩)))) from hcv1
  clear hck1 hch1 hcv1
  go_wp2_with fail
  refine (add_any w.heap.size ⟨p, .pointer (some ⟨kb, 0, none⟩), c.base, c.offs⟩ lv bv o _ HC1.out hoffs hlen ho hs1).mono ?_
  rintro e w2 ⟨rfl, lv', bv', hck2, hch2⟩
  have hrow : ∀ k, (k = p ∨ lv.ownBlock = some k ∨ bv.ownBlock = some k) → w.heap.size ≤ k := by
    intro k hk
    rcases hk with h | h | h
    · omega
    · rcases HC1.out.2 with ⟨_, _, d⟩ | ⟨_, e, _⟩
      · exact (owns_lt d k h).1
      · rw [e] at h; cases h
    · rcases HC1.out.2 with ⟨_, e, _⟩ | ⟨_, _, d⟩
      · rw [e] at h; cases h
      · exact (owns_lt d k h).1
  have hgl : gc < w.heap.size := (owns_lt HCV.out gc rfl).2
  have hb1 : w2.heap[kb]? = w.heap[kb]? := (hch2.block kb (by omega) (fun h => by have := hrow kb h; omega)).trans (HG1.out.block kb hkl (fun h => hgk h.symm))
  have hv2 : w2.ownsRow B 47 1 (.slice (some ⟨gc, 0, none⟩) (m + 1) cc) (m + 1) (xs.set m (.pointer (some ⟨p, 0, none⟩))) :=
    hch2.owns HV1.out (fun k hk h => by have e : gc = k := Option.some.inj hk; have := hrow k h; omega)
  have hg2 : Chg (fun j => j = gc) w w2 := HG1.out.either hch2 (fun _ _ h => h) (fun k hk h => by have := hrow k h; omega)
  obtain ⟨kc0, kc1, kc2, kfz⟩ := set_cells (hb1.trans HB.out)
  have HC2 := show Hid (CkAt w2 w.heap.size ⟨p, .pointer (some ⟨kb, 0, none⟩), c.base, c.offs ++ [o]⟩ lv' bv') from hck2
  have HG2 := show Hid (Chg (fun j => j = gc) w w2) from hg2
  have HV2 := show Hid (w2.ownsRow B 47 1 (.slice (some ⟨gc, 0, none⟩) (m + 1) cc) (m + 1) (xs.set m (.pointer (some ⟨p, 0, none⟩)))) from hv2
  have HB2 := show Hid (w2.heap[kb]? = w.heap[kb]?) from hb1
  clear hck2 hch2 hb1 hv2 hg2 hc0 hc1 hc2 hfz hlast hptr HC1 HG1 HV1 hrow
  go_wp2
  go_end0
  exact ⟨rfl, p, w2, lv', bv', HC2.out, hp1, HG2.out, HV2.out, HB2.out, rfl⟩

/-- append, of a decision in the span of the last chunk, which is shared. -/
theorem set_copy {w : World} {kb B M : Nat} {low : List Ck} {c : Ck} {cv sv : Value} {n : Nat} (S : SetAt w kb B M (low ++ [c]) [] cv sv n) (d o : Nat) (hd : d = c.base + o) (hb : c.base % 4096 = 0) (ho : o < 4096) (hdl : d < 1073741824) (hn : n ≤ 1000000)
    (hN : (low ++ [c]).length ≤ 1000000) (how : c.ow = .pointer none) (hoffs : ∀ x ∈ c.offs, x < 4096) (hlen : c.offs.length ≤ 1000000) :
    Calls Yba.prog 9 #[.pointer (some ⟨kb, 0, none⟩), .int .i32 (d : Int)] w fun e w' => e = .returned (.tuple #[]) ∧
      ∃ p, SetAt w' kb B M low [⟨p, .pointer (some ⟨kb, 0, none⟩), c.base, c.offs ++ [o]⟩] cv sv (n + 1) ∧ Chg (fun k => k = kb ∨ cv.ownBlock = some k) w w' := by
  have hclr : bits .andNot .i32 (d : Int) 4095 = (c.base : Int) := by rw [i32_clear d (by omega), show d - d % 4096 = c.base from by omega]
  have hsub : (d : Int) - (c.base : Int) = (o : Int) := by omega
  have hNe : ((low ++ [c]) ++ []).length = low.length + 1 := by simp
  have hch := S.chs
  have hbs := S.bss
  have hblk := S.blk
  rw [hNe] at hch hbs
  rw [List.append_nil] at hch hbs
  have hN2 : low.length + 1 ≤ 1000000 := by simpa using hN
  obtain ⟨gc, cc, rfl⟩ : ∃ g k, cv = .slice (some ⟨g, 0, none⟩) (low.length + 1) k := by
    rcases owns_form hch with ⟨h, h', _⟩ | ⟨g, c, h, _⟩
    · omega
    · exact ⟨_, _, h⟩
  obtain ⟨gs, sc, rfl⟩ : ∃ g k, sv = .slice (some ⟨g, 0, none⟩) (low.length + 1) k := by
    rcases owns_form hbs with ⟨_, h', _⟩ | ⟨g, c, h, _⟩
    · omega
    · exact ⟨g, c, h⟩
  have hlast : w.cell? ⟨gs, low.length, none⟩ = some (.int .i32 (c.base : Int)) := by
    rw [hbs.cellAt _ (by omega), bases_snoc]
    have : low.length = (bases low).length := by simp [bases]
    rw [this, List.getElem?_append_right (Nat.le_refl _)]
    simp
  have hptr : w.cell? ⟨gc, low.length, none⟩ = some (.pointer (some ⟨c.p, 0, none⟩)) := by
    rw [hch.cellAt _ (by omega), ptrs_snoc]
    have : low.length = (ptrs low).length := by simp [ptrs]
    rw [this, List.getElem?_append_right (Nat.le_refl _)]
    simp
  obtain ⟨hpM, lv, bv, hck, _⟩ := S.lows c (by simp)
  obtain ⟨la, ba, ln, lc, bn, bc, lx, bx, rfl, rfl, R⟩ := hck.rows2
  have hck1 := hck.1
  rw [how] at hck1
  refine (append_copy kb B low.length n d o gs gc sc cc c la ba ln lc bn bc lx bx _ w hblk hN2 hch hlast hptr hck1 R hoffs hlen hclr hsub (by omega) ho hdl hn).mono fun e w' h => ?_
  obtain ⟨he, p, w2, lv', bv', hk2, hp2, hg2, hv2, hb2, rfl⟩ := h
  have hb2' := hb2.trans hblk
  have hgcb : gc ≠ kb := fun h => row_apart hch hblk (by decide) (by rw [h]; rfl)
  have ha : Chg (fun k => k = kb ∨ Value.ownBlock (.slice (some ⟨gc, 0, none⟩) (low.length + 1) cc) = some k) w (w2.setCell ⟨kb, 2, none⟩ (.int .i64 ((n : Int) + 1))) :=
    (show Chg (fun k => k = kb ∨ Value.ownBlock (.slice (some ⟨gc, 0, none⟩) (low.length + 1) cc) = some k) w w2 from hg2.mono (fun k _ h => Or.inr (by rw [h]; rfl))).setCell (p := ⟨kb, 2, none⟩) (fun _ => Or.inl rfl) _
  have hend : Chg (fun k => k = kb) w2 (w2.setCell ⟨kb, 2, none⟩ (.int .i64 ((n : Int) + 1))) := (Chg.refl (fun k => k = kb) w2).setCell (fun _ => rfl) _
  have hMs := S.hM
  have hsz := ha.size
  refine ⟨he, p, ⟨?_, ?_, ?_, ?_, ?_, by omega, by have := S.hB; omega⟩, ha⟩
  · rw [set_set2 hb2' _]; simp
  · have e : ptrs (low ++ [⟨p, .pointer (some ⟨kb, 0, none⟩), c.base, c.offs ++ [o]⟩]) = (ptrs (low ++ [c])).set low.length (.pointer (some ⟨p, 0, none⟩)) := by
      rw [ptrs_snoc, ptrs_snoc]
      have hl : low.length = (ptrs low).length := by simp [ptrs]
      rw [hl, List.set_append_right _ _ (Nat.le_refl _)]
      simp
    rw [e, List.length_append]
    exact hend.owns hv2 (fun k hk h => by have e : gc = k := Option.some.inj hk; omega)
  · have h3 := ha.owns S.bss (fun k hk h => by
      rcases h with h | h
      · subst h; exact row_apart S.bss hblk (by decide) hk
      · exact owns_apart S.bss S.chs (by decide) hk h)
    simpa [bases] using h3
  · intro x hx
    refine (S.lows x (List.mem_append_left _ hx)).keep ha (fun k hk h => ?_)
    rcases h with h | h
    · subst h; exact ⟨_, _, _, hblk, by decide, by decide, by decide⟩
    · obtain ⟨cur, e⟩ := owns_blk hch h
      exact ⟨_, _, _, e, by decide, by decide, by decide⟩
  · intro x hx
    have := List.mem_singleton.1 hx
    subst this
    have hkbl := lt_of_blk hblk
    have hk3 := hk2.keep hend (fun h => by have h' : p = kb := h; omega) (fun k hk h => by
        obtain ⟨cur, e⟩ := hk2.lrow hk
        rw [h, hb2'] at e
        simp at e) (fun k hk h => by
        obtain ⟨cur, e⟩ := hk2.brow hk
        rw [h, hb2'] at e
        simp at e)
    refine ⟨by show M ≤ p; omega, lv', bv', hk3.1, ?_⟩
    rcases hk3.2 with ⟨a, b, d⟩ | ⟨a, b, d⟩
    · exact Or.inl ⟨a, b, owns_base d (fun k hk => by have := (owns_lt d k hk).1; omega)⟩
    · exact Or.inr ⟨a, b, owns_base d (fun k hk => by have := (owns_lt d k hk).1; omega)⟩

end Go.Proofs.Ybulkbtwy
