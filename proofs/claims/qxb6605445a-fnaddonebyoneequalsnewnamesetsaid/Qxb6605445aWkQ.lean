/-
  A row with room, in blocks of the call's own: what slices.Insert asks and gives. slices.Insert at []string and at [][]string in these words.
-/
import Derived.Test.Qxb6605445aWkP
import Derived.Deep.Upon
namespace Go.Proofs.Qxb6605445a
open Go.RowKit Go.Lib
set_option linter.unusedVariables false
set_option linter.unusedSimpArgs false

/-- v put in at place i. -/
def ins {α : Type} (cs : List α) (i : Nat) (v : α) : List α := cs.take i ++ v :: cs.drop i

theorem ins_len {α : Type} (cs : List α) (i : Nat) (v : α) (hi : i ≤ cs.length) : (ins cs i v).length = cs.length + 1 := by
  simp [ins]; omega

theorem ins_lt {α : Type} (cs : List α) (i j : Nat) (v : α) (hj : j < i) (hi : i ≤ cs.length) : (ins cs i v)[j]? = cs[j]? := by
  unfold ins
  rw [List.getElem?_append_left (by simp; omega), List.getElem?_take, if_pos hj]

theorem ins_at {α : Type} (cs : List α) (i : Nat) (v : α) (hi : i ≤ cs.length) : (ins cs i v)[i]? = some v := by
  unfold ins
  rw [List.getElem?_append_right (by simp; omega)]
  simp [Nat.min_eq_left hi]

theorem ins_gt {α : Type} (cs : List α) (i j : Nat) (v : α) (hj : i < j) (hi : i ≤ cs.length) : (ins cs i v)[j]? = cs[j - 1]? := by
  unfold ins
  rw [List.getElem?_append_right (by simp; omega)]
  simp only [List.length_take, Nat.min_eq_left hi]
  rw [show j - i = (j - i - 1) + 1 by omega, List.getElem?_cons_succ, List.getElem?_drop]
  congr 1; omega

theorem ins_map {α β : Type} (f : α → β) (cs : List α) (i : Nat) (v : α) : ins (cs.map f) i (f v) = (ins cs i v).map f := by
  simp [ins, List.map_take, List.map_drop]

/-- The slice's elements are vs, and all its room, up to its capacity, lies in a block of R that may be written. -/
structure Room (w : World) (R : Nat → Prop) (a : Option Addr) (n c : Nat) (vs : List Value) : Prop where
  len : vs.length = n
  le : n ≤ c
  cap : c ≤ maxLen
  lies : (a = none ∧ c = 0) ∨ ∃ g off, a = some ⟨g, off, none⟩ ∧ R g ∧ g < w.heap.size ∧ (∀ j, j < n → w.cell? ⟨g, off + j, none⟩ = vs[j]?) ∧ (∀ j, j < c → (w.cell? ⟨g, off + j, none⟩).isSome = true) ∧ ∀ o, w.frozen? ⟨g, o, none⟩ = false

theorem Room.strs {w : World} {R : Nat → Prop} {a : Option Addr} {n c : Nat} {ss : List ByteArray} (h : Room w R a n c (ss.map .string)) : Strs w a n c ss := by
  have hl : ss.length = n := by simpa using h.len
  refine ⟨hl, h.le, h.cap, ?_⟩
  rcases h.lies with ⟨_, h0⟩ | ⟨g, off, rfl, _, hg, hc, _⟩
  · exact .inl (by have := h.le; omega)
  · refine .inr ⟨g, off, rfl, hg, fun i hi => ?_⟩
    rw [hc i hi]
    simp [List.getD, hl, hi]

theorem Room.kept {w w' : World} {R : Nat → Prop} {a : Option Addr} {n c : Nat} {vs : List Value} (h : Room w R a n c vs) (hs : w.heap.size ≤ w'.heap.size) (hb : ∀ g, a.map (·.block) = some g → w'.heap[g]? = w.heap[g]?) : Room w' R a n c vs := by
  refine ⟨h.len, h.le, h.cap, ?_⟩
  rcases h.lies with h0 | ⟨g, off, rfl, hR, hg, hc, hr, hf⟩
  · exact .inl h0
  · have e := hb g rfl
    refine .inr ⟨g, off, rfl, hR, by omega, fun j hj => ?_, fun j hj => ?_, fun o => ?_⟩
    · exact (World.cell?_of_block (w := w) (a := ⟨g, off + j, none⟩) e).trans (hc j hj)
    · rw [World.cell?_of_block (w := w) (a := ⟨g, off + j, none⟩) e]; exact hr j hj
    · exact (World.frozen?_of_block (w := w) (a := ⟨g, o, none⟩) e).trans (hf o)

theorem Room.mono {w : World} {R R' : Nat → Prop} {a : Option Addr} {n c : Nat} {vs : List Value} (h : Room w R a n c vs) (hR : ∀ g, a.map (·.block) = some g → g < w.heap.size → R g → R' g) : Room w R' a n c vs := by
  refine ⟨h.len, h.le, h.cap, ?_⟩
  rcases h.lies with h0 | ⟨g, off, rfl, hRg, hg, r⟩
  · exact .inl h0
  · exact .inr ⟨g, off, rfl, hR g rfl hg hRg, hg, r⟩

theorem Own.room {w : World} {base : Nat} {a : Option Addr} {n c : Nat} {ss : List ByteArray} (h : Own w base a n c ss) : Room w (fun g => base ≤ g) a n c (ss.map .string) := by
  refine ⟨by simpa using h.strs.len, h.strs.le, h.strs.cap, ?_⟩
  rcases h.own with h0 | ⟨g, off, cur, rfl, h1, h2, h3⟩
  · exact .inl h0
  · have hg : g < w.heap.size := (Array.getElem?_eq_some_iff.1 h2).1
    refine .inr ⟨g, off, rfl, h1, hg, fun j hj => ?_, fun j hj => ?_, fun o => ?_⟩
    · obtain ⟨b', o', e, _, hc⟩ := h.strs.at (by omega)
      cases e
      rw [hc j hj]
      have := h.strs.len
      simp [List.getD, this, hj]
    · simp only [World.cell?, h2]
      rw [if_neg (by simp), Array.getElem?_eq_getElem (by omega)]; rfl
    · simp [World.frozen?, h2]

theorem Room.ofOwns {w : World} {base : Nat} {t : TypeId} {a : Option Addr} {n c : Nat} {vs : List Value} (h : w.ownsRow base t 1 (.slice a n c) n vs) : Room w (fun g => base ≤ g) a n c vs := by
  have hl : vs.length = n := by simpa using h.1
  rcases h.2 with ⟨hv, hn⟩ | ⟨g, cap, cur, hv, hb, hg, hnc, hcm, hcs, ht⟩
  · simp only [Value.slice.injEq] at hv
    obtain ⟨rfl, rfl, rfl⟩ := hv
    exact ⟨hl, Nat.le_refl _, Nat.zero_le _, .inl ⟨rfl, rfl⟩⟩
  · simp only [Value.slice.injEq] at hv
    obtain ⟨rfl, _, rfl⟩ := hv
    refine ⟨hl, hnc, hcm, .inr ⟨g, 0, rfl, hb, (Array.getElem?_eq_some_iff.1 hg).1, fun j hj => ?_, fun j hj => ?_, fun o => h.frozenAt o⟩⟩
    · rw [Nat.zero_add, h.cellAt j (by omega)]
    · simp only [World.cell?, hg]
      rw [if_neg (by simp), Array.getElem?_eq_getElem (by omega)]; rfl

/-- What Insert gives. -/
def Inserted (w : World) (R : Nat → Prop) (a : Option Addr) (n c : Nat) (cs : List Value) (i : Nat) (v : Value) (e : Ending) (w' : World) : Prop :=
  ∃ a' c', e = .returned (.slice a' (n + 1) c') ∧ Room w' R a' (n + 1) c' (ins cs i v) ∧ w.grownBy w' (Value.slice a n c).ownBlock ∧ ∀ g, (Value.slice a' (n + 1) c').ownBlock = some g → (Value.slice a n c).ownBlock = some g ∨ w.heap.size ≤ g

theorem grownBy_setCells (w : World) (g o : Nat) (vs : List Value) : w.grownBy (w.setCells g o vs) (some g) := by
  induction vs generalizing o w with
  | nil => exact World.grownBy.refl _ _
  | cons v r ih =>
    have h := ih (w.setCell ⟨g, o, none⟩ v) (o + 1)
    refine ⟨h.os, h.tape, h.output, by have := h.size; rw [World.size_setCell] at this; exact this, fun k hk hne => ?_⟩
    exact (h.block k (by simpa using hk) hne).trans (Below.heap_setCell _ _ _ _ (fun e => hne (by rw [e])))

theorem grownBy_trans {a b c : World} {row : Option Nat} (h : a.grownBy b row) (k : b.grownBy c row) : a.grownBy c row :=
  ⟨k.os.trans h.os, k.tape.trans h.tape, k.output.trans h.output, Nat.le_trans h.size k.size, fun j hj hne => (k.block j (Nat.lt_of_lt_of_le hj h.size) hne).trans (h.block j hj hne)⟩

/-- In place. -/
theorem inserted_shift {w : World} {R : Nat → Prop} {g off n c : Nat} {cs : List Value} (h : Room w R (some ⟨g, off, none⟩) n c cs) (i : Nat) (v : Value) (hi : i ≤ n) (hroom : n + 1 ≤ c) (W : World) (hWc : ∀ x, W.cell? x = w.cell? x) (hWf : ∀ x, W.frozen? x = w.frozen? x) (hW : w.grownBy W (some g)) :
    Inserted w R (some ⟨g, off, none⟩) n c cs i v (.returned (.slice (some ⟨g, off, none⟩) (n + 1) c)) ((W.setCells g (off + (i + 1)) (cs.drop i)).setCells g (off + i) [v]) := by
  have hl := h.len
  rcases h.lies with ⟨h0, _⟩ | ⟨g', off', e, hR, hg, hc, hr, hf⟩
  · cases h0
  cases e
  have hdl : (cs.drop i).length = n - i := by rw [List.length_drop, hl]
  have gr : w.grownBy ((W.setCells g (off + (i + 1)) (cs.drop i)).setCells g (off + i) [v]) (some g) := grownBy_trans hW (grownBy_trans (grownBy_setCells _ _ _ _) (grownBy_setCells _ _ _ _))
  have hs1 : ∀ j, j < c → ((W.setCells g (off + (i + 1)) (cs.drop i)).cell? ⟨g, off + j, none⟩).isSome = true := fun j hj =>
    isSome_setCells g _ _ _ (fun t ht => by rw [hWc, Nat.add_assoc]; exact hr _ (by omega)) _ (by rw [hWc]; exact hr j hj)
  refine ⟨_, c, rfl, ⟨by rw [ins_len _ _ _ (by omega), hl], hroom, h.cap, .inr ⟨g, off, rfl, hR, by have := gr.size; omega, fun j hj => ?_, fun j hj => ?_, fun o => ?_⟩⟩, gr, fun k hk => .inl hk⟩
  · rcases Nat.lt_trichotomy j i with hji | hji | hji
    · rw [World.cell?_setCells_out g _ _ _ _ (fun _ _ => .inl (by show off + j < _; omega)), World.cell?_setCells_out g _ _ _ _ (fun _ _ => .inl (by show off + j < _; omega)), hWc, hc j (by omega), ins_lt _ _ _ _ hji (by omega)]
    · subst hji
      have := World.cell?_setCells_in g [v] (off + j) (W.setCells g (off + (j + 1)) (cs.drop j)) (fun t ht => by simp at ht; subst ht; exact hs1 j (by omega)) 0 (by simp)
      rw [ins_at _ _ _ (by omega)]
      simpa using this
    · rw [World.cell?_setCells_out g _ _ _ _ (fun _ _ => .inr (by show off + i + 1 ≤ off + j; omega))]
      have := World.cell?_setCells_in g (cs.drop i) (off + (i + 1)) W (fun t ht => by rw [hWc, Nat.add_assoc]; exact hr _ (by omega)) (j - (i + 1)) (by omega)
      rw [show off + (i + 1) + (j - (i + 1)) = off + j by omega] at this
      rw [this, ins_gt _ _ _ _ hji (by omega), List.getElem_drop, List.getElem?_eq_getElem (by omega)]
      congr 1; congr 1; omega
  · exact isSome_setCells g _ _ _ (fun t ht => by simp at ht; subst ht; exact hs1 i (by omega)) _ (hs1 j hj)
  · rw [World.frozen?_setCells, World.frozen?_setCells, hWf]; exact hf o

/-- At the end, a new row. -/
theorem inserted_end {w : World} {R : Nat → Prop} {a : Option Addr} {n c : Nat} {cs : List Value} (h : Room w R a n c cs) (v : Value) (t : TypeId) (z : Value) (hz : z.cells.size = 1) (G : Nat) (hG : n + 1 ≤ G) (hGm : G ≤ maxLen) (hR : ∀ j, w.heap.size ≤ j → R j) :
    Inserted w R a n c cs n v (.returned (.slice (some ⟨w.heap.size, 0, none⟩) (n + 1) G)) (w.drew.alloc (.cells ((cs ++ [v]).toArray ++ Builtin.zeroCells z.cells (G - (n + 1))) t)) := by
  have hl := h.len
  have hsz : ((cs ++ [v]).toArray ++ Builtin.zeroCells z.cells (G - (n + 1))).size = G := by
    simp [Builtin.zeroCells, hz, hl]; omega
  generalize hrow : (cs ++ [v]).toArray ++ Builtin.zeroCells z.cells (G - (n + 1)) = ROW at hsz
  refine ⟨_, G, rfl, ⟨by rw [ins_len _ _ _ (by omega), hl], hG, hGm, .inr ⟨w.heap.size, 0, rfl, hR _ (Nat.le_refl _), by simp, fun j hj => ?_, fun j hj => ?_, fun o => ?_⟩⟩, ?_, fun g hg => .inr ?_⟩
  · rw [Nat.zero_add, World.cell?_alloc_at (w := w.drew) ROW _ w.heap.size j rfl, ← hrow, Array.getElem?_append_left (by simp; omega)]
    have : ins cs n v = cs ++ [v] := by simp [ins, ← hl]
    rw [this]; simp
  · rw [Nat.zero_add, World.cell?_alloc_at (w := w.drew) ROW _ w.heap.size j rfl, Array.getElem?_eq_getElem (by omega)]; rfl
  · exact World.frozen?_alloc_at (w := w.drew) ROW _ w.heap.size o rfl
  · exact ⟨rfl, rfl, rfl, by simp, fun k hk _ => Below.heap_alloc w.drew _ k hk⟩
  · simp [Value.ownBlock] at hg; omega

/-- In the middle, a new row. -/
theorem inserted_grow {w : World} {R : Nat → Prop} {a : Option Addr} {n c : Nat} {cs : List Value} (h : Room w R a n c cs) (i : Nat) (hi : i < n) (v : Value) (t : TypeId) (z : Value) (hz : z.cells.size = 1) (G : Nat) (hG : n + 1 ≤ G) (hGm : G ≤ maxLen) (hR : ∀ j, w.heap.size ≤ j → R j) :
    Inserted w R a n c cs i v (.returned (.slice (some ⟨w.heap.size, 0, none⟩) (n + 1) G))
      ((((w.alloc (.cells ((cs.take i).toArray ++ Builtin.zeroCells z.cells (n + 1 - i) ++ Builtin.zeroCells z.cells (G - (n + 1))) t)).drew.setCells w.heap.size i [v]).drew).setCells w.heap.size (i + 1) (cs.drop i)) := by
  have hl := h.len
  have hsz : ((cs.take i).toArray ++ Builtin.zeroCells z.cells (n + 1 - i) ++ Builtin.zeroCells z.cells (G - (n + 1))).size = G := by
    simp [Builtin.zeroCells, hz, hl]; omega
  have hrd : ∀ j, j < i → ((cs.take i).toArray ++ Builtin.zeroCells z.cells (n + 1 - i) ++ Builtin.zeroCells z.cells (G - (n + 1)))[j]? = cs[j]? := fun j hj => by
    rw [Array.append_assoc, Array.getElem?_append_left (by simp; omega)]
    simp [List.getElem?_take, hj]
  generalize hrow : (cs.take i).toArray ++ Builtin.zeroCells z.cells (n + 1 - i) ++ Builtin.zeroCells z.cells (G - (n + 1)) = ROW at hsz hrd
  have hdl : (cs.drop i).length = n - i := by rw [List.length_drop, hl]
  generalize hw0 : (w.alloc (.cells ROW t)).drew = w0
  have hc0 : ∀ j, w0.cell? ⟨w.heap.size, j, none⟩ = ROW[j]? := fun j => by rw [← hw0]; exact World.cell?_alloc_at (w := w) ROW _ w.heap.size j rfl
  have hf0 : ∀ j, w0.frozen? ⟨w.heap.size, j, none⟩ = false := fun j => by rw [← hw0]; exact World.frozen?_alloc_at (w := w) ROW _ w.heap.size j rfl
  have hg0 : w.grownBy w0 none := by rw [← hw0]; exact ⟨rfl, rfl, rfl, by simp, fun k hk _ => Below.heap_alloc w _ k hk⟩
  have hsm0 : ∀ j, j < G → (w0.cell? ⟨w.heap.size, j, none⟩).isSome = true := fun j hj => by rw [hc0, Array.getElem?_eq_getElem (by omega)]; rfl
  have hs1 : w0.heap.size = w.heap.size + 1 := by rw [← hw0]; simp
  have g1 := grownBy_setCells w0 w.heap.size i [v]
  generalize hw1 : w0.setCells w.heap.size i [v] = w1 at g1
  have hsm1 : ∀ j, j < G → (w1.drew.cell? ⟨w.heap.size, j, none⟩).isSome = true := fun j hj => by
    rw [World.cell?_drew, ← hw1]
    exact isSome_setCells _ _ _ _ (fun t ht => by simp at ht; subst ht; exact hsm0 _ (by omega)) _ (hsm0 j hj)
  have g2 := grownBy_setCells w1.drew w.heap.size (i + 1) (cs.drop i)
  refine ⟨_, G, rfl, ⟨by rw [ins_len _ _ _ (by omega), hl], hG, hGm, .inr ⟨w.heap.size, 0, rfl, hR _ (Nat.le_refl _), ?_, fun j hj => ?_, fun j hj => ?_, fun o => ?_⟩⟩, ?_, fun g hg => .inr ?_⟩
  · have := g2.size; have := g1.size; have : w1.drew.heap.size = w1.heap.size := rfl; omega
  · rw [Nat.zero_add]
    rcases Nat.lt_trichotomy j i with hji | hji | hji
    · rw [World.cell?_setCells_out _ _ _ _ _ (fun _ _ => .inl (by show j < _; omega)), World.cell?_drew, ← hw1, World.cell?_setCells_out _ _ _ _ _ (fun _ _ => .inl (by show j < _; omega)), hc0, hrd j hji, ins_lt _ _ _ _ hji (by omega)]
    · subst hji
      rw [World.cell?_setCells_out _ _ _ _ _ (fun _ _ => .inl (by show j < _; omega)), World.cell?_drew, ← hw1]
      have := World.cell?_setCells_in w.heap.size [v] j w0 (fun t ht => by simp at ht; subst ht; exact hsm0 _ (by omega)) 0 (by simp)
      rw [ins_at _ _ _ (by omega)]
      simpa using this
    · have := World.cell?_setCells_in w.heap.size (cs.drop i) (i + 1) w1.drew (fun t ht => hsm1 _ (by omega)) (j - (i + 1)) (by omega)
      rw [show i + 1 + (j - (i + 1)) = j by omega] at this
      rw [this, ins_gt _ _ _ _ hji (by omega), List.getElem_drop, List.getElem?_eq_getElem (by omega)]
      congr 1; congr 1; omega
  · rw [Nat.zero_add]
    exact isSome_setCells _ _ _ _ (fun t ht => hsm1 _ (by omega)) _ (hsm1 j hj)
  · rw [World.frozen?_setCells]
    show w1.frozen? _ = false
    rw [← hw1, World.frozen?_setCells]; exact hf0 o
  · refine ⟨g2.os.trans (g1.os.trans hg0.os), g2.tape.trans (g1.tape.trans hg0.tape), g2.output.trans (g1.output.trans hg0.output), ?_, fun k hk hne => ?_⟩
    · have := g2.size; have := g1.size; have : w1.drew.heap.size = w1.heap.size := rfl; omega
    · have hk1 : k < w1.heap.size := by have := g1.size; omega
      have e0 : some k ≠ some w.heap.size := by simp; omega
      exact (g2.block k hk1 e0).trans ((g1.block k (by omega) e0).trans (hg0.block k hk (by simp)))
  · simp [Value.ownBlock] at hg; omega

theorem grownBy_drew (w : World) (row : Option Nat) : w.grownBy w.drew row := ⟨rfl, rfl, rfl, Nat.le_refl _, fun _ _ _ => rfl⟩

theorem one_string (ss : List ByteArray) : ∀ v ∈ ss.map Value.string, v.oneCell' = true := by
  intro v hv
  simp at hv
  obtain ⟨x, _, rfl⟩ := hv
  rfl

theorem insert32_w (a : Option Addr) (n c : Nat) (cs : List Value) (R : Nat → Prop) (w : World) (h : Room w R a n c cs) (hn : n ≤ 1048576) (i : Nat) (hi : i ≤ n) (v : Value) (h1 : ∀ u ∈ cs, u.oneCell' = true) (h1v : v.oneCell' = true)
    (vb : Nat) (vc : Nat) (hv : w.cell? ⟨vb, 0, none⟩ = some v) (hvb : a.map (·.block) ≠ some vb) (hvf : ∀ o, w.frozen? ⟨vb, o, none⟩ = false) (hR : ∀ j, w.heap.size ≤ j → R j) :
    Calls Try.prog 32 #[.slice a n c, .int .i64 i, .slice (some ⟨vb, 0, none⟩) 1 vc] w fun e w' => Inserted w R a n c cs i v e w' := by
  have hl := h.len
  have hvs : ∀ j u, [v][j]? = some u → w.cell? ⟨vb, 0 + j, none⟩ = some u := fun j u hj => by
    match j, hj with
    | 0, hj => simp at hj; subst hj; exact hv
  have h1vs : ∀ u ∈ [v], u.oneCell' = true := fun u hu => by simp at hu; subst hu; exact h1v
  have hz : (Value.string ⟨#[]⟩).cells.size = 1 := rfl
  have hGm : ∀ q, grownCap w (n + 1) q 9 ≤ maxLen := fun q => grownCap_le_maxLen w (n + 1) q 9 (by unfold maxLen; omega)
  rcases h.lies with ⟨rfl, h0⟩ | ⟨g, off, rfl, hRg, hg, hc, hr, hf⟩
  · have hn0 : n = 0 := by have := h.le; omega
    obtain rfl : i = n := by omega
    refine (Any2.slices_Insert_string_end_grow laysNm222 none i c vb 0 1 vc cs [v] w (by omega) h.le (by omega) (by omega) hl rfl (fun _ => hn0) (fun _ e => by cases e) hvs h1vs).mono ?_
    rintro e w' ⟨rfl, rfl⟩
    exact inserted_end h v 9 _ hz _ (grownCap_ge w _ _ _) (hGm c) hR
  · have hgv : vb ≠ g := fun e => hvb (by rw [e]; rfl)
    have hcs : ∀ j u, cs[j]? = some u → w.cell? ⟨g, off + j, none⟩ = some u := fun j u hj => by
      rw [hc j (by have := (List.getElem?_eq_some_iff.1 hj).1; omega), hj]
    by_cases hroom : n + 1 ≤ c
    · have h63 : c ≤ 9223372036854775807 := by have := h.cap; unfold maxLen at this; omega
      by_cases hin : i < n
      · obtain ⟨tA, kA, hsa, _⟩ := World.shape?_of_cell? hv
        obtain ⟨u0, hu0⟩ := Option.isSome_iff_exists.1 (hr 0 (by omega))
        obtain ⟨tB, kB, hsb, hkB, _⟩ := World.shape?_of_cell? hu0
        refine (Any2.slices_Insert_string_shift laysNm222 g off n c i vb 0 1 vc cs [v] w hin (by omega) hroom h63 hgv hl rfl hcs (fun j hj => hr j (by omega)) (fun j _ => hf _) hvs h1 h1vs tA tB kA kB hsa hsb (by omega) (hvf _) (hvf _)).mono ?_
        rintro e w' ⟨rfl, rfl⟩
        exact inserted_shift h i v hi hroom w.drew (fun _ => rfl) (fun _ => rfl) (grownBy_drew _ _)
      · obtain rfl : i = n := by omega
        refine (Any2.slices_Insert_string_end_room laysNm222 g off i c vb 0 1 vc [v] w (by omega) hroom h63 rfl (fun j hj => by rw [Nat.add_assoc]; exact hr _ (by omega)) (fun j _ => hf _) hvs h1vs).mono ?_
        rintro e w' ⟨rfl, rfl⟩
        have := inserted_shift h i v hi hroom w (fun _ => rfl) (fun _ => rfl) (World.grownBy.refl _ _)
        rw [List.drop_of_length_le (by omega)] at this
        exact this
    · by_cases hin : i < n
      · refine (Any2.slices_Insert_string_grow laysNm222 g off n c i vb 0 1 vc cs [v] w hin (by omega) h.le (by omega) (by omega) hl rfl hcs hvs h1 h1vs).mono ?_
        rintro e w' ⟨rfl, rfl⟩
        exact inserted_grow h i hin v 9 _ hz _ (grownCap_ge w _ _ _) (hGm c) hR
      · obtain rfl : i = n := by omega
        refine (Any2.slices_Insert_string_end_grow laysNm222 (some ⟨g, off, none⟩) i c vb 0 1 vc cs [v] w (by omega) h.le (by omega) (by omega) hl rfl (fun e => by cases e) (fun a e j u hj => by cases e; rw [Addr.add_lit]; exact hcs j u hj) hvs h1vs).mono ?_
        rintro e w' ⟨rfl, rfl⟩
        exact inserted_end h v 9 _ hz _ (grownCap_ge w _ _ _) (hGm c) hR

theorem insert34_w (a : Option Addr) (n c : Nat) (cs : List Value) (R : Nat → Prop) (w : World) (h : Room w R a n c cs) (h0n : 0 < n) (hn : n ≤ 1048576) (i : Nat) (hi : i ≤ n) (v : Value) (h1 : ∀ u ∈ cs, u.oneCell' = true) (h1v : v.oneCell' = true)
    (vb : Nat) (vc : Nat) (hv : w.cell? ⟨vb, 0, none⟩ = some v) (hvb : a.map (·.block) ≠ some vb) (hvf : ∀ o, w.frozen? ⟨vb, o, none⟩ = false) (hR : ∀ j, w.heap.size ≤ j → R j) :
    Calls Try.prog 34 #[.slice a n c, .int .i64 i, .slice (some ⟨vb, 0, none⟩) 1 vc] w fun e w' => Inserted w R a n c cs i v e w' := by
  have hl := h.len
  have hvs : ∀ j u, [v][j]? = some u → w.cell? ⟨vb, 0 + j, none⟩ = some u := fun j u hj => by
    match j, hj with
    | 0, hj => simp at hj; subst hj; exact hv
  have h1vs : ∀ u ∈ [v], u.oneCell' = true := fun u hu => by simp at hu; subst hu; exact h1v
  have hz : (Value.slice none 0 0).cells.size = 1 := rfl
  have hGm : ∀ q, grownCap w (n + 1) q 22 ≤ maxLen := fun q => grownCap_le_maxLen w (n + 1) q 22 (by unfold maxLen; omega)
  rcases h.lies with ⟨rfl, h0⟩ | ⟨g, off, rfl, hRg, hg, hc, hr, hf⟩
  · have hn0 : n = 0 := by have := h.le; omega
    omega
  · have hgv : vb ≠ g := fun e => hvb (by rw [e]; rfl)
    have hcs : ∀ j u, cs[j]? = some u → w.cell? ⟨g, off + j, none⟩ = some u := fun j u hj => by
      rw [hc j (by have := (List.getElem?_eq_some_iff.1 hj).1; omega), hj]
    by_cases hroom : n + 1 ≤ c
    · have h63 : c ≤ 9223372036854775807 := by have := h.cap; unfold maxLen at this; omega
      by_cases hin : i < n
      · obtain ⟨tA, kA, hsa, _⟩ := World.shape?_of_cell? hv
        obtain ⟨u0, hu0⟩ := Option.isSome_iff_exists.1 (hr 0 (by omega))
        obtain ⟨tB, kB, hsb, hkB, _⟩ := World.shape?_of_cell? hu0
        refine (ins34_shift g off n c i vb 1 vc cs [v] w hin (by omega) hroom h63 hgv hl rfl hcs (fun j hj => hr j (by omega)) (fun j _ => hf _) hvs h1 h1vs tA tB kA kB hsa hsb (by omega) (hvf _) (hvf _)).mono ?_
        rintro e w' ⟨rfl, rfl⟩
        exact inserted_shift h i v hi hroom w.drew (fun _ => rfl) (fun _ => rfl) (grownBy_drew _ _)
      · obtain rfl : i = n := by omega
        refine (ins34_end_room g off i c vb 1 vc [v] w (by omega) hroom h63 rfl (fun j hj => by rw [Nat.add_assoc]; exact hr _ (by omega)) (fun j _ => hf _) hvs h1vs).mono ?_
        rintro e w' ⟨rfl, rfl⟩
        have := inserted_shift h i v hi hroom w (fun _ => rfl) (fun _ => rfl) (World.grownBy.refl _ _)
        rw [List.drop_of_length_le (by omega)] at this
        exact this
    · by_cases hin : i < n
      · refine (ins34_grow g off n c i vb 1 vc cs [v] w hin (by omega) h.le (by omega) (by omega) hl rfl hcs hvs h1 h1vs).mono ?_
        rintro e w' ⟨rfl, rfl⟩
        exact inserted_grow h i hin v 22 _ hz _ (grownCap_ge w _ _ _) (hGm c) hR
      · obtain rfl : i = n := by omega
        refine (ins34_end_grow g off i c vb 1 vc cs [v] w (by omega) h.le (by omega) (by omega) hl rfl hcs hvs h1vs).mono ?_
        rintro e w' ⟨rfl, rfl⟩
        exact inserted_end h v 22 _ hz _ (grownCap_ge w _ _ _) (hGm c) hR

end Go.Proofs.Qxb6605445a
