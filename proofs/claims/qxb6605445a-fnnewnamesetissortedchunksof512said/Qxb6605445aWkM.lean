/-
  slices.Sort at []string, in this seat's words: by the shelf's contract.
-/
import Derived.Test.Qxb6605445aShSort
import Derived.Test.Qxb6605445aWkB
import Derived.Test.Qxb6605445aPlC
import Derived.Lib.SortBridgeS
namespace Go.Proofs.Qxb6605445a
open Go.RowKit
open Go.Sort (Holds grow putRow)
set_option linter.unusedVariables false
set_option linter.unusedSimpArgs false

theorem sort_raw (blk off cap : Nat) (ls : List (List UInt8)) (w : World) (hH : Holds encStr w blk off ls.toArray) (hblk : blk < w.heap.size) (hsz : ls.length < 4611686018427387904) :
    Calls Try.prog 29 #[.slice (some ⟨blk, off, none⟩) ls.length cap] w fun e w' =>
      e = .returned (.tuple #[]) ∧ ∃ n os, w' = grow (putRow encStr (Sort.ahead w n) blk off (ls.mergeSort fun x y => decide (x ≤ y)).toArray) os :=
  Any.slices_Sort_string lays190 blk off cap ls w hH hblk hsz

theorem sort_empty (p : Option Addr) (cap : Nat) (w : World) : Calls Try.prog 29 #[.slice p 0 cap] w fun e w' => e = .returned (.tuple #[]) ∧ w' = w :=
  Any.slices_Sort_string_none lays190 p cap w

/-- A list of bytes, as a string. -/
def mkS (l : List UInt8) : ByteArray := ⟨l.toArray⟩
theorem mkS_toList (l : List UInt8) : (mkS l).toList = l := by rw [Lib.toList_data]; simp [mkS]
theorem mkS_data (s : ByteArray) : mkS s.data.toList = s := by cases s; simp [mkS]

def sortS (ss : List ByteArray) : List ByteArray := ((ss.map fun s => s.data.toList).mergeSort fun x y => decide (x ≤ y)).map mkS

theorem sortS_perm (ss : List ByteArray) : (sortS ss).Perm ss := by
  have h := (List.mergeSort_perm (ss.map fun s => s.data.toList) fun x y => decide (x ≤ y)).map mkS
  rw [List.map_map] at h
  have e : (ss.map (mkS ∘ fun s => s.data.toList)) = ss := by
    have h2 : ∀ s ∈ ss, (mkS ∘ fun s : ByteArray => s.data.toList) s = id s := fun s _ => mkS_data s
    rw [List.map_congr_left h2]
    simp
  rw [e] at h
  exact h
theorem sortS_len (ss : List ByteArray) : (sortS ss).length = ss.length := (sortS_perm ss).length_eq
theorem sortS_sorted (ss : List ByteArray) : Sorted (sortS ss) := by
  unfold Sorted sortS
  rw [List.pairwise_map]
  have h := List.pairwise_mergeSort (le := fun x y : List UInt8 => decide (x ≤ y)) (fun a b c h k => by
    simp only [decide_eq_true_eq] at *
    exact List.le_trans h k) (fun a b => by
    simp only [Bool.or_eq_true, decide_eq_true_eq]
    exact List.le_total a b) (ss.map fun s => s.data.toList)
  refine pw_mono (fun a b hab => ?_) h
  rw [leB_iff, ltB_iff, mkS_toList, mkS_toList]
  simpa using hab

theorem grow_block {w : World} {os : Array Obj} {g k : Nat} {f : Array Value → Array Value} (hk : k < w.heap.size) (hne : k ≠ g) : (grow (Sort.mapBlock w g f) os).heap[k]? = w.heap[k]? := by
  have h1 : k < (w.heap.modify g (Sort.onCells f)).size := by simpa using hk
  show ((w.heap.modify g (Sort.onCells f)) ++ os)[k]? = _
  rw [Array.getElem?_append_left h1, Array.getElem?_modify, if_neg (by omega)]

/-- The row of a slice of strings is sorted in place; all else is as it was. -/
theorem sort_w (g off n c : Nat) (cur : Array Value) (ss : List ByteArray) (w : World) (hrow : w.heap[g]? = some (.cells cur 9 (0, 0))) (h : Strs w (some ⟨g, off, none⟩) n c ss) (hn : n ≤ 1048576) :
    Calls Try.prog 29 #[.slice (some ⟨g, off, none⟩) n c] w fun e w' => e = .returned (.tuple #[]) ∧ Strs w' (some ⟨g, off, none⟩) n c (sortS ss) ∧ w.grownBy w' (some g) := by
  by_cases h0 : n = 0
  · subst h0
    refine (sort_empty _ c w).mono fun e w' ⟨he, hw⟩ => ?_
    subst hw
    have : ss = [] := List.eq_nil_of_length_eq_zero h.len
    subst this
    exact ⟨he, by simpa [sortS] using h, World.grownBy.refl _ _⟩
  obtain ⟨b, o, e, hb, cell⟩ := h.at (by omega)
  cases e
  have hl := h.len
  have hH : Holds encStr w g off (ss.map fun s => s.data.toList).toArray := by
    intro j hj
    have hj' : j < ss.length := by simpa using hj
    refine ⟨?_, frozen_of_row w g (off + j) cur 9 hrow⟩
    rw [cell j (by omega), getElem!_pos _ j hj]
    simp [List.getD, hj']
  have hlen : (ss.map fun s => s.data.toList).length = n := by simpa using hl
  have raw := sort_raw g off c (ss.map fun s => s.data.toList) w hH hb (by omega)
  rw [hlen] at raw
  refine raw.mono fun e w' ⟨he, q, os, hw⟩ => ?_
  have hml : ((ss.map fun s => s.data.toList).mergeSort fun x y => decide (x ≤ y)).length = n := by rw [List.length_mergeSort]; exact hlen
  refine ⟨he, ⟨by rw [sortS_len]; exact hl, h.le, h.cap, .inr ⟨g, off, rfl, ?_, fun i hi => ?_⟩⟩, ?_⟩
  · rw [hw]
    show g < ((Sort.ahead w q).heap.modify g _ ++ os).size
    simp [Sort.ahead]
    omega
  · have hc := Lib.cells_sorted_strs (W := w) (b := g) (off := off) (n := n) (m := n) (q := q) (Sx := fun i => ss.getD i ByteArray.empty) (ys := (ss.map fun s => s.data.toList).mergeSort fun x y => decide (x ≤ y)) (os := os) (Nat.le_refl _) hml cell i hi
    rw [hw, Lib.sorted_world encStr w g off q _ _ os hH (by rw [hml]; simp [hl]), hc]
    congr 2
    unfold Lib.strAfter sortS
    generalize ((ss.map fun s => s.data.toList).mergeSort fun x y => decide (x ≤ y)) = L at hml
    have hi' : i < L.length := by omega
    simp [List.getD, hi', mkS]
  · rw [hw]
    refine ⟨rfl, rfl, rfl, ?_, fun k hk hne => ?_⟩
    · show w.heap.size ≤ ((Sort.ahead w q).heap.modify g _ ++ os).size
      simp [Sort.ahead]
    · exact grow_block (w := Sort.ahead w q) hk (fun e => hne (by rw [e]))

end Go.Proofs.Qxb6605445a
