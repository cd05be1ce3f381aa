import Derived.Test.YbulkbtwyCopy
import Derived.Test.YbulkbtwyLayout
set_option linter.unusedVariables false
namespace Go.Proofs.Ybulkbtwy
open Go.RowKit

/-- copy, of whatever set. -/
theorem copy_any {w : World} {kb B M : Nat} {low hi : List Ck} {cv sv : Value} {n : Nat} (S : SetAt w kb B M low hi cv sv n) (hn : n ≤ 1000000) (hN : (low ++ hi).length ≤ 1000000) (hinc : List.Pairwise (fun a b : Ck => a.base < b.base) (low ++ hi)) :
    Calls Yba.prog 11 #[.pointer (some ⟨kb, 0, none⟩)] w (CopyPost w (low ++ hi).length n (low ++ hi)) := by
  have hlow : ∀ j (hj : j < (low ++ hi).length), CkLow w w.heap.size (low ++ hi)[j] := fun j hj => by
    have hm : (low ++ hi)[j] ∈ low ++ hi := List.getElem_mem hj
    rcases List.mem_append.1 hm with h | h
    · exact (S.lows _ h).mono S.hM
    · exact (S.his _ h).low
  have hch := S.chs
  have hbs := S.bss
  have hblk := S.blk
  rcases Nat.eq_zero_or_pos (low ++ hi).length with h0 | h0
  · rw [h0] at hch hbs ⊢
    obtain ⟨ca, cc, rfl⟩ : ∃ a c, cv = .slice a 0 c := by
      rcases owns_form hch with ⟨h, _, _⟩ | ⟨g, c, h, _⟩
      · exact ⟨_, _, h⟩
      · exact ⟨_, _, h⟩
    obtain ⟨sa, sc, rfl⟩ : ∃ a c, sv = .slice a 0 c := by
      rcases owns_form hbs with ⟨h, _, _⟩ | ⟨g, c, h, _⟩
      · exact ⟨_, _, h⟩
      · exact ⟨_, _, h⟩
    exact copy_zero kb B n cc sc ca sa (low ++ hi) w hn h0 hblk hch hbs hlow hinc
  · obtain ⟨gc, cc, rfl⟩ : ∃ g c, cv = .slice (some ⟨g, 0, none⟩) (low ++ hi).length c := by
      rcases owns_form hch with ⟨_, h', _⟩ | ⟨g, c, h, _⟩
      · omega
      · exact ⟨_, _, h⟩
    obtain ⟨gs, sc, rfl⟩ : ∃ g c, sv = .slice (some ⟨g, 0, none⟩) (low ++ hi).length c := by
      rcases owns_form hbs with ⟨_, h', _⟩ | ⟨g, c, h, _⟩
      · omega
      · exact ⟨_, _, h⟩
    exact copy_some kb B (low ++ hi).length gc gs n cc sc (low ++ hi) w hn rfl hN hblk hch hbs hlow hinc

theorem Plain.nobody {cs : List Ck} {ds : List Nat} (h : Plain cs ds) : Plain (cs.map Ck.nobody) ds := by
  refine ⟨?_, ?_, ?_, ?_, ?_⟩
  · rw [← h.flat]; simp [flatC, List.flatMap_map, Ck.nobody]
  · intro c hc
    obtain ⟨x, hx, rfl⟩ := List.mem_map.1 hc
    exact h.ne x hx
  · intro c hc
    obtain ⟨x, hx, rfl⟩ := List.mem_map.1 hc
    exact h.lt x hx
  · intro c hc
    obtain ⟨x, hx, rfl⟩ := List.mem_map.1 hc
    exact h.mul x hx
  · rw [List.pairwise_map]
    exact h.inc

/-- The copy t, while s goes on. M0: the heap's size when t was made. -/
structure TSt (kbt gd M0 : Nat) (csT : List Ck) (dsT : List Nat) (tcv tsv : Value) (wr : World) : Prop where
  rd : Rd wr kbt gd csT dsT tcv tsv
  low : ∀ c ∈ csT, CkLow wr M0 c
  bt : kbt < M0
  bc : ∀ k, tcv.ownBlock = some k → k < M0
  bs : ∀ k, tsv.ownBlock = some k → k < M0
  bd : gd < M0

theorem TSt.keep {kbt gd M0 : Nat} {csT : List Ck} {dsT : List Nat} {tcv tsv : Value} {wr w' : World} (T : TSt kbt gd M0 csT dsT tcv tsv wr) {kb B M n : Nat} {low hi : List Ck} {cv sv : Value} (S : SetAt wr kb B M low hi cv sv n)
    (hne : kbt ≠ kb) (hgd : gd < kb) (hgB : gd < B) (h1 : ∀ k, cv.ownBlock = some k → tcv.ownBlock ≠ some k) (h2 : ∀ k, sv.ownBlock = some k → tsv.ownBlock ≠ some k) {X : Nat → Prop} (hc : Chg X wr w')
    (hX : ∀ k, X k → k = kb ∨ cv.ownBlock = some k ∨ sv.ownBlock = some k ∨ M0 ≤ k) : TSt kbt gd M0 csT dsT tcv tsv w' := by
  have hcl : Clear X M0 wr := fun k hk hx => by
    rcases hX k hx with h | h | h | h
    · subst h; exact ⟨_, _, _, S.blk, by decide, by decide, by decide⟩
    · obtain ⟨cur, e⟩ := owns_blk S.chs h
      exact ⟨_, _, _, e, by decide, by decide, by decide⟩
    · obtain ⟨cur, e⟩ := owns_blk S.bss h
      exact ⟨_, _, _, e, by decide, by decide, by decide⟩
    · omega
  have nkbt : ¬ X kbt := fun hx => by
    rcases hX kbt hx with h | h | h | h
    · exact hne h
    · exact row_apart S.chs T.rd.blk (by decide) h
    · exact row_apart S.bss T.rd.blk (by decide) h
    · have := T.bt; omega
  have ncv : ∀ k, tcv.ownBlock = some k → ¬ X k := fun k hk hx => by
    rcases hX k hx with h | h | h | h
    · subst h; exact row_apart T.rd.chs S.blk (by decide) hk
    · exact h1 k h hk
    · exact owns_apart T.rd.chs S.bss (by decide) hk h
    · have := T.bc k hk; omega
  have nsv : ∀ k, tsv.ownBlock = some k → ¬ X k := fun k hk hx => by
    rcases hX k hx with h | h | h | h
    · subst h; exact row_apart T.rd.bss S.blk (by decide) hk
    · exact owns_apart T.rd.bss S.chs (by decide) hk h
    · exact h2 k h hk
    · have := T.bs k hk; omega
  have ngd : ¬ X gd := fun hx => by
    rcases hX gd hx with h | h | h | h
    · omega
    · have := (owns_lt S.chs gd h).1; omega
    · have := (owns_lt S.bss gd h).1; omega
    · have := T.bd; omega
  have hlow : ∀ c ∈ csT, CkLow w' M0 c := fun c hc' => (T.low c hc').keep hc hcl
  refine ⟨⟨(hc.block kbt (lt_of_blk T.rd.blk) nkbt).trans T.rd.blk, hc.owns T.rd.chs ncv, hc.owns T.rd.bss nsv, fun c hc' => ?_, fun i hi => (hc.cell (p := ⟨gd, i, none⟩) T.rd.gdl ngd).trans (T.rd.dss i hi), by have := hc.size; have := T.rd.gdl; omega, T.rd.pl, T.rd.top, T.rd.len⟩, hlow, T.bt, T.bc, T.bs, T.bd⟩
  obtain ⟨_, lv, bv, hk, _⟩ := hlow c hc'
  exact ⟨lv, bv, hk⟩

/-- The set behind the copy and m - p appends more. -/
structure KSt (wb : World) (kb kbt gd M0 : Nat) (csT : List Ck) (dsT : List Nat) (tcv tsv : Value) (ds : List Nat) (m : Nat) (wr : World) : Prop where
  ex : ∃ M low hi cv sv, SetAt wr kb (kb + 1) M low hi cv sv m ∧ Plain (low ++ hi) (ds.take m) ∧ ((hi = [] ∧ ∀ c ∈ low, c.ow = .pointer none) ∨ ∃ c, hi = [c] ∧ c.ow = .pointer (some ⟨kb, 0, none⟩)) ∧ M0 ≤ M ∧ kb < M ∧
    (∀ k, cv.ownBlock = some k → tcv.ownBlock ≠ some k) ∧ (∀ k, sv.ownBlock = some k → tsv.ownBlock ≠ some k)
  t : TSt kbt gd M0 csT dsT tcv tsv wr
  bel : Below kb wb wr

theorem KSt.step {wb : World} {kb kbt gd M0 : Nat} {csT : List Ck} {dsT : List Nat} {tcv tsv : Value} {ds : List Nat} {m : Nat} {wr : World} (h : KSt wb kb kbt gd M0 csT dsT tcv tsv ds m wr) (hkb : kb ≤ wb.heap.size) (hne : kbt ≠ kb) (hgd : gd < kb)
    (hm : m < ds.length) (hinc : List.Pairwise (· < ·) ds) (htop : ∀ d ∈ ds, d < 400000) (hlen : ds.length ≤ 16384) :
    Calls Yba.prog 9 #[.pointer (some ⟨kb, 0, none⟩), .int .i32 ((ds.getD m 0 : Nat) : Int)] wr fun e w' => e = .returned (.tuple #[]) ∧ KSt wb kb kbt gd M0 csT dsT tcv tsv ds (m + 1) w' := by
  obtain ⟨⟨M, low, hi, cv, sv, S, hp, hsh, hM0, hM, n1, n2⟩, T, hbel⟩ := h
  have hd := getD_lt htop (by omega) m
  have hbig := take_lt ds m hm hinc
  have htk := take_more ds m hm
  have hcnt := hp.count
  have hcl : (low ++ hi).length ≤ 1000000 := by rw [List.length_take] at hcnt; omega
  have hkr : kb ≤ wr.heap.size := by have := lt_of_blk S.blk; omega
  obtain ⟨d, hde⟩ : ∃ d, d = ds.getD m 0 := ⟨_, rfl⟩
  rw [← hde] at hd hbig htk ⊢
  have hdm : d = (d - d % 4096) + d % 4096 := by omega
  by_cases hlast : ∃ c, hi = [c] ∧ c.base = d - d % 4096
  · obtain ⟨c, rfl, hcb⟩ := hlast
    have hmem : c ∈ low ++ [c] := by simp
    have how : c.ow = .pointer (some ⟨kb, 0, none⟩) := by
      rcases hsh with ⟨h, _⟩ | ⟨c', h, h'⟩
      · simp at h
      · have : c = c' := by simpa using h
        subst this
        exact h'
    refine (set_own S d (d % 4096) (by omega) (hp.mul c hmem) (by omega) (by omega) (by omega) hcl how (hp.lt c hmem) (by have := hp.offs_le c hmem; rw [List.length_take] at this; omega)).mono fun e w' hh => ?_
    obtain ⟨he, S', hch⟩ := hh
    have hp' := hp.more (d % 4096) (by omega)
    rw [hcb, ← hdm, ← htk] at hp'
    refine ⟨he, ⟨M, low, _, cv, sv, S', by rw [hcb]; exact hp', Or.inr ⟨_, rfl, how⟩, hM0, hM, n1, n2⟩, ?_, hbel.trans (hch.below hkr (fun k hk => by rcases hk with h | h <;> omega))⟩
    exact T.keep S hne hgd (by omega) n1 n2 hch (fun k hk => by rcases hk with h | h; exact Or.inl h; exact Or.inr (Or.inr (Or.inr (by omega))))
  · by_cases hlast2 : ∃ low0 c, hi = [] ∧ low = low0 ++ [c] ∧ c.base = d - d % 4096
    · obtain ⟨low0, c, rfl, rfl, hcb⟩ := hlast2
      have hp0 : Plain (low0 ++ [c]) (ds.take m) := by simpa using hp
      have hmem : c ∈ low0 ++ [c] := by simp
      have how : c.ow = .pointer none := by
        rcases hsh with ⟨_, h⟩ | ⟨c', h, _⟩
        · exact h c hmem
        · simp at h
      refine (set_copy S d (d % 4096) (by omega) (hp0.mul c hmem) (by omega) (by omega) (by omega) (by simpa using hcl) how (hp0.lt c hmem) (by have := hp0.offs_le c hmem; rw [List.length_take] at this; omega)).mono fun e w' hh => ?_
      obtain ⟨he, p, S', hch⟩ := hh
      have hp1 : Plain (low0 ++ [⟨p, .pointer (some ⟨kb, 0, none⟩), c.base, c.offs⟩]) (ds.take m) := by
        refine ⟨?_, ?_, ?_, ?_, ?_⟩
        · rw [← hp0.flat, flatC_snoc, flatC_snoc]
        · intro x hx
          rcases List.mem_append.1 hx with hx | hx
          · exact hp0.ne x (List.mem_append_left _ hx)
          · rw [List.mem_singleton.1 hx]; exact hp0.ne c hmem
        · intro x hx
          rcases List.mem_append.1 hx with hx | hx
          · exact hp0.lt x (List.mem_append_left _ hx)
          · rw [List.mem_singleton.1 hx]; exact hp0.lt c hmem
        · intro x hx
          rcases List.mem_append.1 hx with hx | hx
          · exact hp0.mul x (List.mem_append_left _ hx)
          · rw [List.mem_singleton.1 hx]; exact hp0.mul c hmem
        · have hpi := hp0.inc
          rw [List.pairwise_append] at hpi ⊢
          refine ⟨hpi.1, by simp, fun a ha b hb => ?_⟩
          rw [List.mem_singleton.1 hb]
          exact hpi.2.2 a ha c (by simp)
      have hp' := hp1.more (d % 4096) (by omega)
      simp only at hp'
      rw [hcb, ← hdm, ← htk] at hp'
      refine ⟨he, ⟨M, low0, _, cv, sv, S', by rw [hcb]; exact hp', Or.inr ⟨_, rfl, rfl⟩, hM0, hM, n1, n2⟩, ?_, hbel.trans (hch.below hkr (fun k hk => ?_))⟩
      · exact T.keep S hne hgd (by omega) n1 n2 hch (fun k hk => by rcases hk with h | h; exact Or.inl h; exact Or.inr (Or.inl h))
      · rcases hk with h | h
        · omega
        · have := (owns_lt S.chs k h).1; omega
    · have hnl : ∀ y, (low ++ hi).getLast? = some y → y.base ≠ d - d % 4096 := by
        intro y hy hb
        rcases hsh with ⟨h1, _⟩ | ⟨c, hc, _⟩
        · rw [h1, List.append_nil] at hy
          rcases List.eq_nil_or_concat low with h | ⟨low0, c, h⟩
          · rw [h] at hy; simp at hy
          · rw [List.concat_eq_append] at h
            rw [h] at hy
            have : c = y := by simpa using hy
            subst this
            exact hlast2 ⟨low0, c, h1, h, hb⟩
        · rw [last_of hc] at hy
          have := Option.some.inj hy
          subst this
          exact hlast ⟨c, hc, hb⟩
      refine (set_new S d (d - d % 4096) (d % 4096) hdm (by omega) (by omega) (by omega) (by omega) hcl hnl).mono fun e w' hh => ?_
      obtain ⟨he, p, cv', sv', S', hch, f1, f2⟩ := hh
      have hp' := hp.next ⟨p, .pointer (some ⟨kb, 0, none⟩), d - d % 4096, [d % 4096]⟩ (d % 4096) (by omega) rfl (by show (d - d % 4096) % 4096 = 0; omega) (fun x hx => by have := hbig x hx; show x < d - d % 4096 + d % 4096; omega) hnl
      simp only at hp'
      rw [← hdm, ← htk] at hp'
      refine ⟨he, ⟨wr.heap.size, _, _, cv', sv', S', hp', Or.inr ⟨_, rfl, rfl⟩, by have := S.hM; omega, lt_of_blk S.blk, ?_, ?_⟩, ?_, hbel.trans (hch.below hkr (fun k hk => ?_))⟩
      · intro k hk htc
        rcases f1 k hk with h | h
        · exact n1 k h htc
        · have := (owns_lt T.rd.chs k htc).2; omega
      · intro k hk htc
        rcases f2 k hk with h | h
        · exact n2 k h htc
        · have := (owns_lt T.rd.bss k htc).2; omega
      · exact T.keep S hne hgd (by omega) n1 n2 hch (fun k hk => by rcases hk with h | h | h; exact Or.inl h; exact Or.inr (Or.inl h); exact Or.inr (Or.inr (Or.inl h)))
      · rcases hk with h | h | h
        · omega
        · have := (owns_lt S.chs k h).1; omega
        · have := (owns_lt S.bss k h).1; omega

end Go.Proofs.Ybulkbtwy
