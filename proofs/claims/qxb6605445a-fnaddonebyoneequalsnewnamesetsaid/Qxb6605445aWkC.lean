/-
  zzCloneBlocks: a copy of a '[][]string', every row of it in a block of its own.
-/
import Derived.Test.Qxb6605445aWkB
namespace Go.Proofs.Qxb6605445a
open Go.RowKit
set_option linter.unusedVariables false
set_option linter.unusedSimpArgs false

theorem Own.mono {w : World} {base base' : Nat} {a : Option Addr} {n c : Nat} {ss : List ByteArray} (h : Own w base a n c ss) (hb : base' ≤ base) : Own w base' a n c ss := by
  refine ⟨h.strs, ?_⟩
  rcases h.own with h0 | ⟨g, off, cur, rfl, h1, h2, h3⟩
  · exact .inl h0
  · exact .inr ⟨g, off, cur, rfl, by omega, h2, h3⟩

theorem Own.lt {w : World} {base : Nat} {a : Option Addr} {n c : Nat} {ss : List ByteArray} (h : Own w base a n c ss) : ∀ k, (Value.slice a n c).ownBlock = some k → base ≤ k ∧ k < w.heap.size := by
  intro k hk
  rcases h.own with ⟨rfl, _⟩ | ⟨g, off, cur, rfl, h1, h2, h3⟩
  · simp [Value.ownBlock] at hk
  · simp [Value.ownBlock] at hk
    subst hk
    exact ⟨h1, (Array.getElem?_eq_some_iff.1 h2).1⟩

/-- What a round has done: the k-th value is stored into the outer row. -/
theorem clone_step {wr w1 : World} {B k n : Nat} {vs : List Value} {a : Option Addr} {m : Nat} {bs : List (List ByteArray)} (hk : k < n) (hbs : bs.length = n) (hvl : vs.length = k)
    (hown : wr.ownsRow B 22 1 (.slice (some ⟨B, 0, none⟩) n n) n (vs ++ List.replicate (n - k) nilS)) (hrows : Rows2 wr (B + 1) vs (bs.take k)) (hold : ∀ i, i < k → ∀ j, (vs.getD i nilS).ownBlock = some j → j < wr.heap.size)
    (hrow : w1.ownsRow wr.heap.size 9 1 (.slice a m m) m ((bs.getD k []).map .string)) (hbel : Below wr.heap.size wr w1) (hB : B < wr.heap.size) :
    (w1.setCell ⟨B, k, none⟩ (.slice a m m)).ownsRow B 22 1 (.slice (some ⟨B, 0, none⟩) n n) n ((vs ++ [.slice a m m]) ++ List.replicate (n - (k + 1)) nilS) ∧
    Rows2 (w1.setCell ⟨B, k, none⟩ (.slice a m m)) (B + 1) (vs ++ [.slice a m m]) (bs.take (k + 1)) ∧
    (∀ i, i < k + 1 → ∀ j, ((vs ++ [Value.slice a m m]).getD i nilS).ownBlock = some j → j < (w1.setCell ⟨B, k, none⟩ (.slice a m m)).heap.size) := by
  have hown1 : w1.ownsRow B 22 1 (.slice (some ⟨B, 0, none⟩) n n) n (vs ++ List.replicate (n - k) nilS) :=
    hown.kept (row := none) ⟨hbel.os, hbel.tape, hbel.output, hbel.size, fun j hj _ => hbel.block j hj⟩ (.inr (by simp [Value.ownBlock]))
  have hrows1 := hrows.below hbel (Nat.le_refl _)
  have own1 : Own w1 (B + 1) a m m (bs.getD k []) := (own_own hrow).mono (by omega)
  have hnew : ∀ j, (Value.slice a m m).ownBlock = some j → wr.heap.size ≤ j ∧ j < w1.heap.size := hrow.lt
  refine ⟨?_, ?_, fun i hi j hj => ?_⟩
  · have e : (vs ++ List.replicate (n - k) nilS).set k (.slice a m m) = (vs ++ [.slice a m m]) ++ List.replicate (n - (k + 1)) nilS := by
      rw [List.set_append, if_neg (by omega), hvl, Nat.sub_self, show n - k = (n - (k + 1)) + 1 by omega, List.replicate_succ]
      simp
    rw [← e]
    exact (hown1.stored k _).1
  · have r1 : Rows2 w1 (B + 1) (vs ++ [.slice a m m]) (bs.take k ++ [bs.getD k []]) :=
      hrows1.snoc (B := wr.heap.size) own1 (fun i hi j hj => hold i (by simpa using (show i < k by simp at hi; omega)) j hj) (fun j hj => (hnew j hj).1)
    rw [← take_snoc [] bs k (by omega)] at r1
    refine ⟨r1.len, fun j hj => ?_, r1.apart⟩
    obtain ⟨a', n', c', h1, h2⟩ := r1.each j hj
    refine ⟨a', n', c', h1, h2.setCell _ _ fun g hg => ?_⟩
    have h3 := (h2.lt g (by cases a' <;> simp_all [Value.ownBlock])).1
    show g ≠ B
    omega
  · rw [World.size_setCell]
    have hs := hbel.size
    by_cases hi' : i < k
    · rw [show (vs ++ [Value.slice a m m]).getD i nilS = vs.getD i nilS by simp [List.getD, List.getElem?_append_left (show i < vs.length by omega)]] at hj
      have := hold i hi' j hj
      omega
    · obtain rfl : i = k := by omega
      rw [show (vs ++ [Value.slice a m m]).getD i nilS = .slice a m m by simp [List.getD, ← hvl]] at hj
      exact (hnew j hj).2

set_option maxHeartbeats 400000 in
theorem cloneBlocks_w (a : Option Addr) (n c : Nat) (bs : List (List ByteArray)) (w : World) (h : Blks w a n c bs) (hn : n ≤ 1048576) (hb : ∀ b ∈ bs, b.length ≤ 1048576) :
    Calls Try.prog 16 #[.slice a n c] w fun e w' => ∃ a', e = .returned (.slice a' n n) ∧ OBlks w' w.heap.size a' n n bs ∧ Below w.heap.size w w' := by
  obtain ⟨i0, hi, hz0, hz1, hz2⟩ := info_parts info22
  have hnil := fun w => Lib.run_eql_slice_nil (P := Try.prog) w 25 22 a n c 0 0 Try.underlying25
  have hl := h.len
  cases a with
  | none =>
    obtain rfl : n = 0 := by rcases h.cells with h0 | ⟨_, _, e, _⟩; exact h0; cases e
    have : bs = [] := List.eq_nil_of_length_eq_zero hl
    subst this
    go_enter Try.func16, Try.ntmps16
    go_wp2
    go_ret
    exact ⟨none, rfl, OBlks.nil _ _, Below.refl _ _⟩
  | some a =>
    have HL := hide hl
    clear hl
    go_enter Try.func16, Try.ntmps16
    go_wp2_with (at_make; refine wpList_make_full _ rfl _ _ 25 rfl w.heap.size 22 i0 (.slice none 0 0) 1 Try.underlying25 hi hz0 hz1 _ _ _ _ n rfl rfl (by omega) (by omega) ?b2 ?b3 (Nat.le_refl _) ?_)
    case b2 => rw [hz2]; omega
    case b3 => unfold maxLen; omega
    intro w0 hown0 hgrow0
    rw [toList_madeCells_one] at hown0
    have hsz0 : w.heap.size < w0.heap.size := (hown0.lt _ rfl).2
    go_wp2
    go_loopw [4] (fun i wr => ∃ (k : Nat) (vs : List Value), k ≤ n ∧ vs.length = k ∧ i = .int .i64 k ∧ wr.ownsRow w.heap.size 22 1 (.slice (some ⟨w.heap.size, 0, none⟩) n n) n (vs ++ List.replicate (n - k) nilS) ∧
        Rows2 wr (w.heap.size + 1) vs (bs.take k) ∧ (∀ i, i < k → ∀ j, (vs.getD i nilS).ownBlock = some j → j < wr.heap.size) ∧ w.heap.size < wr.heap.size ∧ Below w.heap.size w wr) (fun i _ => n - (intOf i).toNat)
    case atStart => exact ⟨0, [], Nat.zero_le _, rfl, rfl, by simpa [nilS] using hown0, ⟨rfl, fun j hj => absurd hj (Nat.not_lt_zero _), fun _ j _ hj => absurd hj (Nat.not_lt_zero _)⟩, fun i hi => absurd hi (Nat.not_lt_zero _), hsz0, (Below.refl _ _).grown hgrow0 (Nat.le_refl _) (fun k h => by cases h)⟩
    case round =>
      obtain ⟨k, vs, hk, hvl, rfl, hown, hrows, hold, hsz, hbel⟩ := hrel
      have HV := hide hvl
      have HO := hide hold
      clear hown0 hgrow0 hi hz0 hz1 hz2 hnil hvl hold
      by_cases hlt : k < n
      · obtain ⟨b, off, e, hbl, g⟩ := h.at (by omega)
        simp only [Option.some.injEq] at e
        subst e
        obtain ⟨a1, n1, c1, g1, g2⟩ := g k hlt
        have e1 : wr.cell? ⟨b, off + k, none⟩ = some (.slice a1 n1 c1) := (hbel.cell (p := ⟨b, off + k, none⟩) hbl).trans g1
        have hkb : k < bs.length := by rw [HL.out]; exact hlt
        have hn1 : n1 ≤ 1048576 := by rw [← g2.len]; exact hb _ (by simp [List.getD, hkb])
        have e2 : wr.cell? ⟨w.heap.size, k, none⟩ = some nilS := by rw [hown.cellAt k (by omega), List.getElem?_append_right (by rw [HV.out]; exact Nat.le_refl _), HV.out]; simp [List.getElem?_replicate]; omega
        have e3 : wr.frozen? ⟨w.heap.size, k, none⟩ = false := hown.frozenAt k
        have g3 := g2.below hbel (Nat.le_refl _)
        clear g g1 g2
        go_wp2_with (go_at_call 10; refine (cloneStrings_w a1 n1 c1 _ _ g3 hn1).mono ?_; rintro e w1 ⟨a', rfl, hrow, hb1⟩; have e4 : w1.cell? ⟨w.heap.size, k, none⟩ = some nilS := (hb1.cell (p := ⟨w.heap.size, k, none⟩) hsz).trans e2; have e5 : w1.frozen? ⟨w.heap.size, k, none⟩ = false := (hb1.frozen (p := ⟨w.heap.size, k, none⟩) hsz).trans e3)
        go_roundw
        case rel =>
          obtain ⟨r1, r2, r3⟩ := clone_step hlt HL.out HV.out hown hrows HO.out hrow hb1 hsz
          exact ⟨k + 1, vs ++ [.slice a' n1 n1], by omega, by simp [HV.out], by go_num, r1, r2, r3, by have := hb1.size; simp; omega, (hbel.trans (hb1.mono (by omega))).setCell (p := ⟨w.heap.size, k, none⟩) (Nat.le_refl _) _⟩
        case measure => simp [intOf]; omega
      · go_wp2
        go_ret
        obtain rfl : k = n := by omega
        refine ⟨_, rfl, ⟨vs, by simpa using hown, ?_⟩, hbel⟩
        have hr : Rows2 wr (w.heap.size + 1) vs bs := by rwa [List.take_of_length_le (by rw [HL.out]; exact Nat.le_refl _)] at hrows
        exact ⟨hr.len, fun j hj => let ⟨a, n, c, h1, h2⟩ := hr.each j hj; ⟨a, n, c, h1, h2.mono (by omega)⟩, hr.apart⟩

end Go.Proofs.Qxb6605445a
