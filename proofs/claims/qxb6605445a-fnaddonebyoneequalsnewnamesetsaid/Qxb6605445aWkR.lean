/-
  A '[][]string' of the call's own, its rows with their room, each in a block of its own: what storing a row into it and putting one more row into it do.
-/
import Derived.Test.Qxb6605445aWkQ
namespace Go.Proofs.Qxb6605445a
open Go.RowKit Go.Lib
set_option linter.unusedVariables false
set_option linter.unusedSimpArgs false

theorem ins_getD {α : Type} (cs : List α) (k j : Nat) (v d : α) (hk : k ≤ cs.length) : (ins cs k v).getD j d = if j < k then cs.getD j d else if j = k then v else cs.getD (j - 1) d := by
  rcases Nat.lt_trichotomy j k with h | h | h
  · rw [if_pos h]; simp only [List.getD, ins_lt _ _ _ _ h hk]
  · subst h; rw [if_neg (by omega), if_pos rfl]; simp only [List.getD, ins_at _ _ _ hk]; rfl
  · rw [if_neg (by omega), if_neg (by omega)]; simp only [List.getD, ins_gt _ _ _ _ h hk]

theorem set_getD {α : Type} (cs : List α) (k j : Nat) (v d : α) (hk : k < cs.length) : (cs.set k v).getD j d = if j = k then v else cs.getD j d := by
  simp only [List.getD, List.getElem?_set]
  by_cases h : k = j
  · subst h; simp [hk]
  · simp [h, Ne.symm h]

structure OB (w : World) (R : Nat → Prop) (a : Option Addr) (n c : Nat) (bs : List (List ByteArray)) (vs : List Value) : Prop where
  row : Room w R a n c vs
  len : bs.length = n
  each : ∀ j, j < n → ∃ a' n' c', vs.getD j nilS = .slice a' n' c' ∧ Room w R a' n' c' ((bs.getD j []).map .string)
  apart : ∀ i j g, i ≠ j → (vs.getD i nilS).ownBlock = some g → (vs.getD j nilS).ownBlock ≠ some g
  outer : ∀ i g, (vs.getD i nilS).ownBlock = some g → a.map (·.block) ≠ some g

theorem ownBlock_slice (a : Option Addr) (n c : Nat) : (Value.slice a n c).ownBlock = a.map (·.block) := by cases a <;> rfl

theorem Room.lt {w : World} {R : Nat → Prop} {a : Option Addr} {n c : Nat} {vs : List Value} (h : Room w R a n c vs) : ∀ g, a.map (·.block) = some g → R g ∧ g < w.heap.size := by
  intro g hg
  rcases h.lies with ⟨rfl, _⟩ | ⟨g', off, rfl, h1, h2, _⟩
  · cases hg
  · simp at hg; subst hg; exact ⟨h1, h2⟩

theorem OB.lt {w : World} {R : Nat → Prop} {a : Option Addr} {n c : Nat} {bs : List (List ByteArray)} {vs : List Value} (h : OB w R a n c bs vs) : ∀ i g, (vs.getD i nilS).ownBlock = some g → R g ∧ g < w.heap.size := by
  intro i g hg
  by_cases hi : i < n
  · obtain ⟨a', n', c', e, hr⟩ := h.each i hi
    rw [e, ownBlock_slice] at hg
    exact hr.lt g hg
  · have : vs.getD i nilS = nilS := by have := h.row.len; simp [List.getD, this, hi]
    rw [this] at hg
    cases hg

theorem OB.blks {w : World} {R : Nat → Prop} {a : Option Addr} {n c : Nat} {bs : List (List ByteArray)} {vs : List Value} (h : OB w R a n c bs vs) : Blks w a n c bs := by
  refine ⟨h.len, h.row.le, h.row.cap, ?_⟩
  rcases h.row.lies with ⟨_, h0⟩ | ⟨g, off, rfl, _, hg, hc, _⟩
  · exact .inl (by have := h.row.le; omega)
  · refine .inr ⟨g, off, rfl, hg, fun i hi => ?_⟩
    obtain ⟨a', n', c', e, hr⟩ := h.each i hi
    refine ⟨a', n', c', ?_, hr.strs⟩
    rw [hc i hi, ← e]
    have := h.row.len
    simp [List.getD, this, hi]

theorem OB.kept {w w' : World} {R : Nat → Prop} {a : Option Addr} {n c : Nat} {bs : List (List ByteArray)} {vs : List Value} (h : OB w R a n c bs vs) (hs : w.heap.size ≤ w'.heap.size) (hb : ∀ g, R g → g < w.heap.size → w'.heap[g]? = w.heap[g]?) : OB w' R a n c bs vs :=
  ⟨h.row.kept hs fun g hg => hb g (h.row.lt g hg).1 (h.row.lt g hg).2, h.len, fun j hj => let ⟨a', n', c', e, hr⟩ := h.each j hj; ⟨a', n', c', e, hr.kept hs fun g hg => hb g (hr.lt g hg).1 (hr.lt g hg).2⟩, h.apart, h.outer⟩

theorem OB.mono {w : World} {R R' : Nat → Prop} {a : Option Addr} {n c : Nat} {bs : List (List ByteArray)} {vs : List Value} (h : OB w R a n c bs vs) (hR : ∀ g, R g → g < w.heap.size → R' g) : OB w R' a n c bs vs :=
  ⟨h.row.mono fun g _ hg hr => hR g hr hg, h.len, fun j hj => let ⟨a', n', c', e, hr⟩ := h.each j hj; ⟨a', n', c', e, hr.mono fun g _ hg hr => hR g hr hg⟩, h.apart, h.outer⟩

/-- A row is stored: the one at k, or one that lies in new memory. -/
theorem OB.put {w w' : World} {R : Nat → Prop} {g off n c : Nat} {bs : List (List ByteArray)} {vs : List Value} (h : OB w R (some ⟨g, off, none⟩) n c bs vs) {k : Nat} (hk : k < n) {a1 : Option Addr} {n1 c1 : Nat} (e1 : vs.getD k nilS = .slice a1 n1 c1)
    (hg : w.grownBy w' (Value.slice a1 n1 c1).ownBlock) {aL : Option Addr} {nL cL : Nat} {ssL : List ByteArray} (hL : Room w' R aL nL cL (ssL.map .string))
    (hLb : ∀ q, (Value.slice aL nL cL).ownBlock = some q → (Value.slice a1 n1 c1).ownBlock = some q ∨ w.heap.size ≤ q) :
    OB (w'.setCell ⟨g, off + k, none⟩ (.slice aL nL cL)) R (some ⟨g, off, none⟩) n c (bs.set k ssL) (vs.set k (.slice aL nL cL)) := by
  have hvl := h.row.len
  have hbl := h.len
  have hgo := h.row.lt g rfl
  have hne1 : some g ≠ (Value.slice a1 n1 c1).ownBlock := fun e => h.outer k g (by rw [e1, ← e]) rfl
  have hbg : w'.heap[g]? = w.heap[g]? := hg.block g hgo.2 hne1
  have hkv : k < vs.length := by omega
  have hkb : k < bs.length := by omega
  have hoL : aL.map (·.block) ≠ some g := fun e => by
    rcases hLb g (by rw [ownBlock_slice]; exact e) with h1 | h1
    · exact hne1 h1.symm
    · omega
  rcases h.row.lies with ⟨h0, _⟩ | ⟨g', off', e, hR, hgs, hc, hr, hf⟩
  · cases h0
  cases e
  have hcw : ∀ o, w'.cell? ⟨g, o, none⟩ = w.cell? ⟨g, o, none⟩ := fun o => World.cell?_of_block (w := w) (a := ⟨g, o, none⟩) hbg
  have hfw : ∀ o, w'.frozen? ⟨g, o, none⟩ = w.frozen? ⟨g, o, none⟩ := fun o => World.frozen?_of_block (w := w) (a := ⟨g, o, none⟩) hbg
  obtain ⟨u, hu⟩ := Option.isSome_iff_exists.1 (hr k (by have := h.row.le; omega))
  have hu' : w'.cell? ⟨g, off + k, none⟩ = some u := (hcw _).trans hu
  refine ⟨⟨by simpa using hvl, h.row.le, h.row.cap, .inr ⟨g, off, rfl, hR, by rw [World.size_setCell]; have := hg.size; omega, fun j hj => ?_, fun j hj => ?_, fun o => ?_⟩⟩, by simpa using hbl, fun j hj => ?_, fun i j q hij hq => ?_, fun i q hq => ?_⟩
  · by_cases hjk : j = k
    · subst hjk
      rw [World.cell?_setCell_same _ _ _ hu']
      simp [hkv]
    · rw [World.cell?_setCell_other _ _ _ _ (by first | (simp; done) | (simp; omega)), hcw, hc j hj]
      simp [List.getElem?_set, Ne.symm hjk]
  · by_cases hjk : j = k
    · subst hjk
      rw [World.cell?_setCell_same _ _ _ hu']; rfl
    · rw [World.cell?_setCell_other _ _ _ _ (by first | (simp; done) | (simp; omega)), hcw]
      exact hr j hj
  · rw [World.frozen?_setCell, hfw]; exact hf o
  · by_cases hjk : j = k
    · subst hjk
      refine ⟨aL, nL, cL, by rw [set_getD _ _ _ _ _ hkv, if_pos rfl], ?_⟩
      rw [set_getD _ _ _ _ _ hkb, if_pos rfl]
      refine hL.kept (by simp) fun q hq => Below.heap_setCell _ _ _ _ fun e => ?_
      exact hoL (by rw [hq, e])
    · obtain ⟨a', n', c', e, hrm⟩ := h.each j hj
      refine ⟨a', n', c', by rw [set_getD _ _ _ _ _ hkv, if_neg hjk, e], ?_⟩
      rw [set_getD _ _ _ _ _ hkb, if_neg hjk]
      refine hrm.kept (by rw [World.size_setCell]; exact hg.size) fun q hq => ?_
      have hq1 : (vs.getD j nilS).ownBlock = some q := by rw [e, ownBlock_slice]; exact hq
      rw [Below.heap_setCell _ _ _ _ (fun e => h.outer j q hq1 (by rw [e]; rfl))]
      exact hg.block q (h.lt j q hq1).2 (fun e => h.apart j k q hjk hq1 (by rw [e1]; exact e.symm))
  · rw [set_getD _ _ _ _ _ hkv] at hq ⊢
    by_cases hi : i = k
    · rw [if_pos hi] at hq
      rw [if_neg (by omega)]
      rcases hLb q hq with h1 | h1
      · exact h.apart i j q hij (by rw [hi, e1]; exact h1)
      · intro e2; have := (h.lt j q e2).2; omega
    · rw [if_neg hi] at hq
      by_cases hj : j = k
      · rw [if_pos hj]
        intro e2
        rcases hLb q e2 with h1 | h1
        · exact h.apart i k q (by omega) hq (by rw [e1]; exact h1)
        · have := (h.lt i q hq).2; omega
      · rw [if_neg hj]
        exact h.apart i j q hij hq
  · rw [set_getD _ _ _ _ _ hkv] at hq
    by_cases hi : i = k
    · rw [if_pos hi, ownBlock_slice] at hq
      intro e2
      exact hoL (by rw [hq, ← e2]; rfl)
    · rw [if_neg hi] at hq
      exact h.outer i q hq

/-- .. and the store may be done. -/
theorem OB.bare {w w' : World} {R : Nat → Prop} {g off n c : Nat} {bs : List (List ByteArray)} {vs : List Value} (h : OB w R (some ⟨g, off, none⟩) n c bs vs) {k : Nat} (hk : k < n) {a1 : Option Addr} {n1 c1 : Nat} (e1 : vs.getD k nilS = .slice a1 n1 c1)
    (hg : w.grownBy w' (Value.slice a1 n1 c1).ownBlock) : w'.cell? ⟨g, off + k, none⟩ = some (.slice a1 n1 c1) ∧ w'.frozen? ⟨g, off + k, none⟩ = false := by
  have hvl := h.row.len
  have hgo := h.row.lt g rfl
  have hne1 : some g ≠ (Value.slice a1 n1 c1).ownBlock := fun e => h.outer k g (by rw [e1, ← e]) rfl
  have hbg : w'.heap[g]? = w.heap[g]? := hg.block g hgo.2 hne1
  rcases h.row.lies with ⟨h0, _⟩ | ⟨g', off', e, hR, hgs, hc, hr, hf⟩
  · cases h0
  cases e
  refine ⟨(World.cell?_of_block (w := w) (a := ⟨g, off + k, none⟩) hbg).trans ?_, (World.frozen?_of_block (w := w) (a := ⟨g, off + k, none⟩) hbg).trans (hf _)⟩
  rw [hc k hk, ← e1]
  simp [List.getD, hvl, hk]

/-- One more row is put in. -/
theorem OB.more {w w2 w' : World} {R : Nat → Prop} {a : Option Addr} {n c : Nat} {bs : List (List ByteArray)} {vs : List Value} (h : OB w R a n c bs vs) {k : Nat} (hk : k ≤ n) (hs : w.heap.size ≤ w2.heap.size) (hb : ∀ q, q < w.heap.size → w2.heap[q]? = w.heap[q]?)
    {ar : Option Addr} {nr cr : Nat} {rs : List ByteArray} (hr : Room w2 R ar nr cr (rs.map .string)) (hrb : ∀ q, (Value.slice ar nr cr).ownBlock = some q → w.heap.size ≤ q) {e : Ending} (hI : Inserted w2 R a n c vs k (.slice ar nr cr) e w') :
    ∃ a' c', e = .returned (.slice a' (n + 1) c') ∧ OB w' R a' (n + 1) c' (ins bs k rs) (ins vs k (.slice ar nr cr)) ∧ w2.grownBy w' (Value.slice a n c).ownBlock := by
  obtain ⟨a', c', he, hrow, hgr, hblk⟩ := hI
  have hvl := h.row.len
  have hbl := h.len
  have h2 : OB w2 R a n c bs vs := h.kept hs fun g _ hg => hb g hg
  have hkv : k ≤ vs.length := by omega
  have hkb : k ≤ bs.length := by omega
  have keep : ∀ {q : Nat}, q < w2.heap.size → a.map (·.block) ≠ some q → w'.heap[q]? = w2.heap[q]? := fun {q} hq hne => hgr.block q hq (fun e => hne (by rw [← ownBlock_slice a n c]; exact e.symm))
  have hro : ∀ q, ar.map (·.block) = some q → a.map (·.block) ≠ some q := fun q hq e => by
    have h1 := hrb q (by rw [ownBlock_slice]; exact hq)
    have h3 := (h.row.lt q e).2
    omega
  have inner : ∀ i q, ((ins vs k (.slice ar nr cr)).getD i nilS).ownBlock = some q → q < w2.heap.size ∧ a.map (·.block) ≠ some q := fun i q hq => by
    rw [ins_getD _ _ _ _ _ hkv] at hq
    split at hq
    · exact ⟨(h2.lt i q hq).2, h2.outer i q hq⟩
    · split at hq
      · rw [ownBlock_slice] at hq
        exact ⟨(hr.lt q hq).2, hro q hq⟩
      · exact ⟨(h2.lt _ q hq).2, h2.outer _ q hq⟩
  refine ⟨a', c', he, ⟨hrow, by rw [ins_len _ _ _ hkb, hbl], fun j hj => ?_, fun i j q hij hq => ?_, fun i q hq => ?_⟩, hgr⟩
  · rw [ins_getD _ _ _ _ _ hkv, ins_getD _ _ _ _ _ hkb]
    by_cases h1 : j < k
    · rw [if_pos h1, if_pos h1]
      obtain ⟨a1, n1, c1, e1, hr1⟩ := h2.each j (by omega)
      exact ⟨a1, n1, c1, e1, hr1.kept hgr.size fun q hq => keep (hr1.lt q hq).2 (h2.outer j q (by rw [e1, ownBlock_slice]; exact hq))⟩
    · rw [if_neg h1, if_neg h1]
      by_cases h3 : j = k
      · rw [if_pos h3, if_pos h3]
        exact ⟨ar, nr, cr, rfl, hr.kept hgr.size fun q hq => keep (hr.lt q hq).2 (hro q hq)⟩
      · rw [if_neg h3, if_neg h3]
        obtain ⟨a1, n1, c1, e1, hr1⟩ := h2.each (j - 1) (by omega)
        exact ⟨a1, n1, c1, e1, hr1.kept hgr.size fun q hq => keep (hr1.lt q hq).2 (h2.outer (j - 1) q (by rw [e1, ownBlock_slice]; exact hq))⟩
  · have new : ∀ i q, (vs.getD i nilS).ownBlock = some q → (Value.slice ar nr cr).ownBlock ≠ some q := fun i q h1 h3 => by
      have := (h.lt i q h1).2
      have := hrb q h3
      omega
    rw [ins_getD _ _ _ _ _ hkv] at hq ⊢
    by_cases i1 : i < k
    · rw [if_pos i1] at hq
      by_cases j1 : j < k
      · rw [if_pos j1]; exact h2.apart i j q hij hq
      · rw [if_neg j1]
        by_cases j2 : j = k
        · rw [if_pos j2]; exact new i q hq
        · rw [if_neg j2]; exact h2.apart i (j - 1) q (by omega) hq
    · rw [if_neg i1] at hq
      by_cases i2 : i = k
      · rw [if_pos i2] at hq
        by_cases j1 : j < k
        · rw [if_pos j1]; exact fun e => new j q e hq
        · rw [if_neg j1, if_neg (by omega)]; exact fun e => new (j - 1) q e hq
      · rw [if_neg i2] at hq
        by_cases j1 : j < k
        · rw [if_pos j1]; exact h2.apart (i - 1) j q (by omega) hq
        · rw [if_neg j1]
          by_cases j2 : j = k
          · rw [if_pos j2]; exact new (i - 1) q hq
          · rw [if_neg j2]; exact h2.apart (i - 1) (j - 1) q (by omega) hq
  · intro e2
    obtain ⟨h1, h3⟩ := inner i q hq
    rcases hblk q (by rw [ownBlock_slice]; exact e2) with h4 | h4
    · rw [ownBlock_slice] at h4; exact h3 h4
    · omega

/-- Clip. -/
theorem Room.clip {w : World} {R : Nat → Prop} {a : Option Addr} {n c : Nat} {ss : List ByteArray} (h : Room w R a n c (ss.map .string)) (m : Nat) (hm : m ≤ n) (h0 : 0 < m) : Room w R a m m ((ss.take m).map .string) := by
  have hl : ss.length = n := by simpa using h.len
  refine ⟨by simp [hl]; omega, Nat.le_refl _, by have := h.le; have := h.cap; omega, ?_⟩
  rcases h.lies with ⟨_, hc⟩ | ⟨g, off, rfl, hR, hg, hc, hr, hf⟩
  · have := h.le; omega
  · refine .inr ⟨g, off, rfl, hR, hg, fun j hj => ?_, fun j hj => hr j (by have := h.le; omega), hf⟩
    rw [hc j (by omega)]
    simp [List.getElem?_take, hj]

/-- An OBlks is one. -/
theorem OBlks.ob {w : World} {base : Nat} {a : Option Addr} {n c : Nat} {bs : List (List ByteArray)} (h : OBlks w base a n c bs) : ∃ vs, OB w (fun g => base ≤ g) a n c bs vs := by
  obtain ⟨vs, ho, hr⟩ := h
  have hl : vs.length = n := by simpa using ho.1
  have hbl : bs.length = n := by rw [← hr.len, hl]
  have past : ∀ i, ¬ i < n → vs.getD i nilS = nilS := fun i hi => by simp [List.getD, hl, hi]
  refine ⟨vs, Room.ofOwns ho, hbl, fun j hj => ?_, fun i j g hij hg e => ?_, fun i g hg e => ?_⟩
  · obtain ⟨a', n', c', h1, h2⟩ := hr.each j (by omega)
    exact ⟨a', n', c', h1, h2.room⟩
  · have hi : i < n := by
      refine Classical.byContradiction fun hi => ?_
      rw [past i hi] at hg; cases hg
    have hj : j < n := by
      refine Classical.byContradiction fun hj => ?_
      rw [past j hj] at e; cases e
    rcases Nat.lt_or_gt_of_ne hij with h1 | h1
    · rcases hr.apart i j h1 (by omega) with h2 | h2
      · rw [h2] at hg; cases hg
      · exact h2 (hg.trans e.symm)
    · rcases hr.apart j i h1 (by omega) with h2 | h2
      · rw [h2] at e; cases e
      · exact h2 (e.trans hg.symm)
  · have hi : i < n := by
      refine Classical.byContradiction fun hi => ?_
      rw [past i hi] at hg; cases hg
    obtain ⟨a', n', c', h1, h2⟩ := hr.each i (by omega)
    rcases h2.own with ⟨rfl, _⟩ | ⟨g', off, cur, rfl, _, h3, _⟩
    · rw [h1] at hg; cases hg
    · rw [h1] at hg
      simp [Value.ownBlock] at hg
      subst hg
      rcases ho.2 with ⟨hv, hn⟩ | ⟨g2, cap, cur2, hv, hb, hg2, _⟩
      · omega
      · simp only [Value.slice.injEq] at hv
        obtain ⟨rfl, _, rfl⟩ := hv
        simp at e
        subst e
        rw [hg2] at h3
        cases h3

theorem OB.nil (w : World) (R : Nat → Prop) : OB w R none 0 0 [] [] :=
  ⟨⟨rfl, Nat.le_refl _, Nat.zero_le _, .inl ⟨rfl, rfl⟩⟩, rfl, fun j hj => absurd hj (Nat.not_lt_zero _), fun i j g _ hg => (by cases hg), fun i g hg => (by cases hg)⟩

end Go.Proofs.Qxb6605445a
