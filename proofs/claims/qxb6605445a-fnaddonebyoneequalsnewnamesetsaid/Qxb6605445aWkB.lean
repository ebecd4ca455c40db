/-
  zzCloneStrings, zzCloneBlocks, zzFlatten: what makes new memory.
-/
import Derived.Test.Qxb6605445aWkA
namespace Go.Proofs.Qxb6605445a
open Go.RowKit
set_option linter.unusedVariables false
set_option linter.unusedSimpArgs false

theorem info9 : (Try.prog.info? 9).map (fun i => (i.zero, i.size, i.bytes)) = some (some (.string ByteArray.empty), 1, 16) := by kernel_rfl
theorem info22 : (Try.prog.info? 22).map (fun i => (i.zero, i.size, i.bytes)) = some (some (.slice none 0 0), 1, 24) := by kernel_rfl

/-- What the first k of vs have been written over n zeroes. -/
def filled (z : Value) (vs : List Value) (n k : Nat) : List Value := vs.take k ++ List.replicate (n - k) z

theorem filled_zero (z : Value) (vs : List Value) (n : Nat) : filled z vs n 0 = List.replicate n z := by simp [filled]
theorem filled_all (z : Value) (vs : List Value) : filled z vs vs.length vs.length = vs := by simp [filled]
theorem filled_get (z : Value) (vs : List Value) (n k : Nat) (h : k < n) (hl : vs.length = n) : (filled z vs n k)[k]? = some z := by
  unfold filled
  rw [List.getElem?_append_right (by simp; omega)]
  simp [List.getElem?_replicate]
  omega
theorem filled_set (z : Value) (vs : List Value) (n k : Nat) (h : k < n) (hl : vs.length = n) : (filled z vs n k).set k (vs.getD k z) = filled z vs n (k + 1) := by
  unfold filled
  have e : n - k = (n - (k + 1)) + 1 := by omega
  rw [List.set_append, if_neg (by simp; omega), e, List.replicate_succ, take_snoc z vs k (by omega)]
  simp [show k - min k vs.length = 0 by omega]

theorem own_strs {w : World} {base : Nat} {a : Option Addr} {n c : Nat} {ss : List ByteArray} (h : w.ownsRow base 9 1 (.slice a n c) n (ss.map .string)) : Strs w a n c ss := by
  have hl : ss.length = n := by simpa using h.1
  rcases h.2 with ⟨hv, hn⟩ | ⟨g, cap, cur, hv, hb, hg, hnc, hcm, hcs, ht⟩
  · simp only [Value.slice.injEq] at hv
    obtain ⟨rfl, rfl, rfl⟩ := hv
    exact ⟨hl, Nat.le_refl _, Nat.zero_le _, .inl rfl⟩
  · simp only [Value.slice.injEq] at hv
    obtain ⟨rfl, _, rfl⟩ := hv
    refine ⟨hl, hnc, hcm, .inr ⟨g, 0, rfl, ?_, fun i hi => ?_⟩⟩
    · exact (Array.getElem?_eq_some_iff.1 hg).1
    · rw [Nat.zero_add, h.cellAt i (by omega)]
      simp [List.getD, hl, hi]

set_option maxHeartbeats 400000 in
theorem cloneStrings_w (a : Option Addr) (n c : Nat) (ss : List ByteArray) (w : World) (h : Strs w a n c ss) (hn : n ≤ 1048576) :
    Calls Try.prog 10 #[.slice a n c] w fun e w' => ∃ a', e = .returned (.slice a' n n) ∧ w'.ownsRow w.heap.size 9 1 (.slice a' n n) n (ss.map .string) ∧ Below w.heap.size w w' := by
  obtain ⟨i0, hi, hz0, hz1, hz2⟩ := info_parts info9
  have hnil := fun w => Lib.run_eql_slice_nil (P := Try.prog) w 22 9 a n c 0 0 Try.underlying22
  have hl := h.len
  cases a with
  | none =>
    obtain rfl : n = 0 := by rcases h.cells with h0 | ⟨_, _, e, _⟩; exact h0; cases e
    have : ss = [] := List.eq_nil_of_length_eq_zero hl
    subst this
    go_enter Try.func10, Try.ntmps10
    go_wp2
    go_ret
    exact ⟨none, rfl, World.ownsRow_nil _ _ _ _, Below.refl _ _⟩
  | some a =>
    have HL := hide hl
    clear hl
    go_enter Try.func10, Try.ntmps10
    go_wp2_with (at_make; refine wpList_make_full _ rfl _ _ 22 rfl w.heap.size 9 i0 (.string ByteArray.empty) 1 Try.underlying22 hi hz0 hz1 _ _ _ _ n rfl rfl (by omega) (by omega) ?b2 ?b3 (Nat.le_refl _) ?_)
    case b2 => rw [hz2]; omega
    case b3 => unfold maxLen; omega
    intro w0 hown0 hgrow0
    rw [toList_madeCells_one, ← filled_zero _ (ss.map .string)] at hown0
    go_wp2
    go_loopw [4] (fun i wr => ∃ k : Nat, k ≤ n ∧ i = .int .i64 k ∧ wr.ownsRow w.heap.size 9 1 (.slice (some ⟨w.heap.size, 0, none⟩) n n) n (filled (.string ByteArray.empty) (ss.map .string) n k) ∧ Below w.heap.size w wr) (fun i _ => n - (intOf i).toNat)
    case atStart => exact ⟨0, Nat.zero_le _, rfl, hown0, (Below.refl _ _).grown hgrow0 (Nat.le_refl _) (fun k h => by cases h)⟩
    case round =>
      obtain ⟨k, hk, rfl, hown, hbel⟩ := hrel
      clear hown0 hgrow0 hi hz0 hz1 hz2 hnil
      by_cases hlt : k < n
      · obtain ⟨b, off, e, hb, g⟩ := h.at (by omega)
        simp only [Option.some.injEq] at e
        subst e
        have e1 : wr.cell? ⟨b, off + k, none⟩ = some (.string (ss.getD k ByteArray.empty)) := (hbel.cell (p := ⟨b, off + k, none⟩) hb).trans (g k hlt)
        have e2 : wr.cell? ⟨w.heap.size, k, none⟩ = some (.string ByteArray.empty) := by rw [hown.cellAt k (by omega)]; exact filled_get _ _ _ _ hlt (by simpa using HL.out)
        have e3 : wr.frozen? ⟨w.heap.size, k, none⟩ = false := hown.frozenAt k
        generalize hx : ss.getD k ByteArray.empty = x at e1
        have HX := hide hx
        clear hx g
        go_wp2
        go_roundw
        case rel =>
          refine ⟨k + 1, by omega, by go_num, ?_, hbel.setCell (p := ⟨w.heap.size, k, none⟩) (Nat.le_refl _) _⟩
          have fs := filled_set (.string ByteArray.empty) (ss.map Value.string) n k hlt (by simpa using HL.out)
          rw [show (ss.map Value.string).getD k (.string ByteArray.empty) = Value.string x by rw [← HX.out]; simp [List.getD, HL.out, hlt]] at fs
          rw [← fs]
          exact (hown.stored k _).1
        case measure => simp [intOf]; omega
      · go_wp2
        go_ret
        refine ⟨_, rfl, ?_, hbel⟩
        obtain rfl : k = n := by omega
        have e := filled_all (.string ByteArray.empty) (ss.map Value.string)
        rw [List.length_map, HL.out] at e
        rwa [e] at hown

/-- The slice leads to the strings ss, and all its room, up to its capacity, lies in a block of the call's own (from 'base' on) that may be written. -/
structure Own (w : World) (base : Nat) (a : Option Addr) (n c : Nat) (ss : List ByteArray) : Prop where
  strs : Strs w a n c ss
  own : (a = none ∧ c = 0) ∨ ∃ g off cur, a = some ⟨g, off, none⟩ ∧ base ≤ g ∧ w.heap[g]? = some (.cells cur 9 (0, 0)) ∧ off + c ≤ cur.size

theorem own_own {w : World} {base : Nat} {a : Option Addr} {n c : Nat} {ss : List ByteArray} (h : w.ownsRow base 9 1 (.slice a n c) n (ss.map .string)) : Own w base a n c ss := by
  refine ⟨own_strs h, ?_⟩
  rcases h.2 with ⟨hv, hn⟩ | ⟨g, cap, cur, hv, hb, hg, hnc, hcm, hcs, ht⟩
  · simp only [Value.slice.injEq] at hv
    exact .inl ⟨hv.1, hv.2.2⟩
  · simp only [Value.slice.injEq] at hv
    obtain ⟨rfl, _, rfl⟩ := hv
    exact .inr ⟨g, 0, cur, rfl, hb, hg, by omega⟩

theorem Own.below {w w' : World} {base B : Nat} {a : Option Addr} {n c : Nat} {ss : List ByteArray} (h : Own w base a n c ss) (hb : Below B w w') (hB : w.heap.size ≤ B) : Own w' base a n c ss := by
  refine ⟨h.strs.below hb hB, ?_⟩
  rcases h.own with h0 | ⟨g, off, cur, rfl, h1, h2, h3⟩
  · exact .inl h0
  · refine .inr ⟨g, off, cur, rfl, h1, ?_, h3⟩
    have hlt : g < w.heap.size := (Array.getElem?_eq_some_iff.1 h2).1
    rw [hb.block g (by omega)]
    exact h2

/-- A cell of a block that holds other than strings is written: what is owned stays. -/
theorem Own.setCell {w : World} {base : Nat} {a : Option Addr} {n c : Nat} {ss : List ByteArray} (h : Own w base a n c ss) (p : Addr) (u : Value) (hp : ∀ g, a.map (·.block) = some g → g ≠ p.block) : Own (w.setCell p u) base a n c ss := by
  refine ⟨⟨h.strs.len, h.strs.le, h.strs.cap, ?_⟩, ?_⟩
  · rcases h.strs.cells with h0 | ⟨b, off, rfl, h1, h2⟩
    · exact .inl h0
    · refine .inr ⟨b, off, rfl, by simpa using h1, fun i hi => ?_⟩
      rw [← h2 i hi]
      refine World.cell?_of_block ?_
      exact Below.heap_setCell _ _ _ _ (hp b rfl)
  · rcases h.own with h0 | ⟨g, off, cur, rfl, h1, h2, h3⟩
    · exact .inl h0
    · exact .inr ⟨g, off, cur, rfl, h1, by rw [Below.heap_setCell _ _ _ _ (hp g rfl)]; exact h2, h3⟩

def nilS : Value := .slice none 0 0

/-- The slice values vs lead each to its own strings, each in a block of its own. -/
structure Rows2 (w : World) (base : Nat) (vs : List Value) (bs : List (List ByteArray)) : Prop where
  len : vs.length = bs.length
  each : ∀ j, j < bs.length → ∃ a n c, vs.getD j nilS = .slice a n c ∧ Own w base a n c (bs.getD j [])
  apart : ∀ i j, i < j → j < bs.length → (vs.getD i nilS).ownBlock = none ∨ (vs.getD i nilS).ownBlock ≠ (vs.getD j nilS).ownBlock

theorem Rows2.below {w w' : World} {base B : Nat} {vs : List Value} {bs : List (List ByteArray)} (h : Rows2 w base vs bs) (hb : Below B w w') (hB : w.heap.size ≤ B) : Rows2 w' base vs bs :=
  ⟨h.len, fun j hj => let ⟨a, n, c, h1, h2⟩ := h.each j hj; ⟨a, n, c, h1, h2.below hb hB⟩, h.apart⟩

/-- A '[][]string' of the call's own. -/
def OBlks (w : World) (base : Nat) (a : Option Addr) (n c : Nat) (bs : List (List ByteArray)) : Prop :=
  ∃ vs, w.ownsRow base 22 1 (.slice a n c) n vs ∧ Rows2 w base vs bs

theorem OBlks.blks {w : World} {base : Nat} {a : Option Addr} {n c : Nat} {bs : List (List ByteArray)} (h : OBlks w base a n c bs) : Blks w a n c bs := by
  obtain ⟨vs, h, hr⟩ := h
  have hl : vs.length = n := by simpa using h.1
  rcases h.2 with ⟨hv, hn⟩ | ⟨g, cap, cur, hv, hb, hg, hnc, hcm, hcs, ht⟩
  · simp only [Value.slice.injEq] at hv
    obtain ⟨rfl, rfl, rfl⟩ := hv
    exact ⟨by rw [← hr.len, hl], Nat.le_refl _, Nat.zero_le _, .inl rfl⟩
  · simp only [Value.slice.injEq] at hv
    obtain ⟨rfl, _, rfl⟩ := hv
    refine ⟨by rw [← hr.len, hl], hnc, hcm, .inr ⟨g, 0, rfl, (Array.getElem?_eq_some_iff.1 hg).1, fun i hi => ?_⟩⟩
    obtain ⟨a', n', c', h1, h2⟩ := hr.each i (by rw [← hr.len, hl]; exact hi)
    refine ⟨a', n', c', ?_, h2.strs⟩
    rw [Nat.zero_add, h.cellAt i (by omega), ← h1]
    simp [List.getD, hl, hi]

theorem OBlks.nil (w : World) (base : Nat) : OBlks w base none 0 0 [] := ⟨[], World.ownsRow_nil _ _ _ _, ⟨rfl, fun j hj => absurd hj (Nat.not_lt_zero _), fun _ j _ hj => absurd hj (Nat.not_lt_zero _)⟩⟩

/-- One round of zzCloneBlocks: a new row's value behind those that lie already. -/
theorem Rows2.snoc {w : World} {base : Nat} {vs : List Value} {bs : List (List ByteArray)} {a : Option Addr} {n c : Nat} {ss : List ByteArray} {B : Nat} (h : Rows2 w base vs bs) (hs : Own w base a n c ss)
    (hold : ∀ i, i < bs.length → ∀ k, (vs.getD i nilS).ownBlock = some k → k < B) (hnew : ∀ k, (Value.slice a n c).ownBlock = some k → B ≤ k) : Rows2 w base (vs ++ [.slice a n c]) (bs ++ [ss]) := by
  have hl := h.len
  refine ⟨by simp [hl], fun j hj => ?_, fun i j hij hj => ?_⟩
  · by_cases hlt : j < bs.length
    · obtain ⟨a', n', c', h1, h2⟩ := h.each j hlt
      exact ⟨a', n', c', by rw [← h1]; simp [List.getD, List.getElem?_append_left (show j < vs.length by omega)], by simpa [List.getD, List.getElem?_append_left hlt] using h2⟩
    · obtain rfl : j = bs.length := by simp at hj; omega
      exact ⟨a, n, c, by simp [List.getD, ← hl], by simpa [List.getD] using hs⟩
  · have ei : (vs ++ [Value.slice a n c]).getD i nilS = vs.getD i nilS := by
      have : i < vs.length := by simp at hj; omega
      simp [List.getD, List.getElem?_append_left this]
    rw [ei]
    by_cases hlt : j < bs.length
    · rw [show (vs ++ [Value.slice a n c]).getD j nilS = vs.getD j nilS by simp [List.getD, List.getElem?_append_left (show j < vs.length by omega)]]
      exact h.apart i j hij hlt
    · obtain rfl : j = bs.length := by simp at hj; omega
      rw [show (vs ++ [Value.slice a n c]).getD bs.length nilS = .slice a n c by simp [List.getD, ← hl]]
      cases he : (vs.getD i nilS).ownBlock with
      | none => exact .inl rfl
      | some k =>
        refine .inr fun e => ?_
        have h1 := hold i hij k he
        have h2 := hnew k e.symm
        omega

end Go.Proofs.Qxb6605445a
