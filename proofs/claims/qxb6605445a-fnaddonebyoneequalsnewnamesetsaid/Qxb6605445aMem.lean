/-
  What a '[]string' and a '[][]string' are in the model's memory: the words that every contract of this seat speaks.
-/
import Derived.WalkKit
import Derived.WalkLawsBesides
import Derived.WalkSpells
import Derived.Below
import Derived.Lib.Strings
import Derived.Deep.LoopGhost
import Derived.BigQuiet
import Derived.Deep.QuietTactic
import Derived.RegionTactic
namespace Go.Proofs.Qxb6605445a
open Go.RowKit

theorem hide {p : Prop} (h : p) : Hid p := h
theorem ret_bool {a b : Bool} (h : a = b) : Ending.returned (.bool a) = .returned (.bool b) := by rw [h]
theorem ret_int {k : IntKind} {a b : Int} (h : a = b) : Ending.returned (.int k a) = .returned (.int k b) := by rw [h]

/-- It returned a bool, true just where p holds. -/
def RetIs (e : Ending) (p : Prop) : Prop := ∃ r : Bool, e = .returned (.bool r) ∧ (r = true ↔ p)
theorem RetIs.yes {p : Prop} (h : p) : RetIs (.returned (.bool true)) p := ⟨true, rfl, by simp [h]⟩
theorem RetIs.no {p : Prop} (h : ¬ p) : RetIs (.returned (.bool false)) p := ⟨false, rfl, by simp [h]⟩

/-- The slice value '.slice a n c' leads to the strings ss. -/
structure Strs (w : World) (a : Option Addr) (n c : Nat) (ss : List ByteArray) : Prop where
  len : ss.length = n
  le : n ≤ c
  cap : c ≤ maxLen
  cells : n = 0 ∨ ∃ b off, a = some ⟨b, off, none⟩ ∧ b < w.heap.size ∧ ∀ i, i < n → w.cell? ⟨b, off + i, none⟩ = some (.string (ss.getD i ByteArray.empty))

/-- The slice value '.slice a n c' leads to slices that lead to the strings bs. -/
structure Blks (w : World) (a : Option Addr) (n c : Nat) (bs : List (List ByteArray)) : Prop where
  len : bs.length = n
  le : n ≤ c
  cap : c ≤ maxLen
  cells : n = 0 ∨ ∃ b off, a = some ⟨b, off, none⟩ ∧ b < w.heap.size ∧ ∀ i, i < n → ∃ a' n' c', w.cell? ⟨b, off + i, none⟩ = some (.slice a' n' c') ∧ Strs w a' n' c' (bs.getD i [])

theorem Strs.below {B : Nat} {w w' : World} {a : Option Addr} {n c : Nat} {ss : List ByteArray} (h : Strs w a n c ss) (hb : Below B w w') (hB : w.heap.size ≤ B) : Strs w' a n c ss := by
  refine ⟨h.len, h.le, h.cap, ?_⟩
  rcases h.cells with h0 | ⟨b, off, rfl, hlt, hc⟩
  · exact .inl h0
  · exact .inr ⟨b, off, rfl, by have := hb.size; omega, fun i hi => (hb.cell (p := ⟨b, off + i, none⟩) (by show b < B; omega)).trans (hc i hi)⟩

theorem Blks.below {B : Nat} {w w' : World} {a : Option Addr} {n c : Nat} {bs : List (List ByteArray)} (h : Blks w a n c bs) (hb : Below B w w') (hB : w.heap.size ≤ B) : Blks w' a n c bs := by
  refine ⟨h.len, h.le, h.cap, ?_⟩
  rcases h.cells with h0 | ⟨b, off, rfl, hlt, hc⟩
  · exact .inl h0
  · refine .inr ⟨b, off, rfl, by have := hb.size; omega, fun i hi => ?_⟩
    obtain ⟨a', n', c', h1, h2⟩ := hc i hi
    exact ⟨a', n', c', (hb.cell (p := ⟨b, off + i, none⟩) (by show b < B; omega)).trans h1, h2.below hb hB⟩

theorem Strs.drewN {w : World} {a : Option Addr} {n c : Nat} {ss : List ByteArray} (q : Nat) (h : Strs w a n c ss) : Strs (w.drewN q) a n c ss := by
  refine ⟨h.len, h.le, h.cap, ?_⟩
  simpa using h.cells

theorem toList_inj {x y : ByteArray} (h : x.toList = y.toList) : x = y := by
  rw [Lib.toList_data, Lib.toList_data] at h
  cases x with
  | mk xd => cases y with
    | mk yd => exact congrArg ByteArray.mk (Array.toList_inj.1 h)

theorem beq_toList (x y : ByteArray) : (x.toList == y.toList) = decide (x = y) := by
  by_cases h : x = y
  · simp [h]
  · rw [decide_eq_false h, beq_eq_false_iff_ne]
    exact fun e => h (toList_inj e)

theorem Strs.nil (w : World) : Strs w none 0 0 [] := ⟨rfl, Nat.le_refl _, Nat.zero_le _, .inl rfl⟩
theorem Blks.nil (w : World) : Blks w none 0 0 [] := ⟨rfl, Nat.le_refl _, Nat.zero_le _, .inl rfl⟩

/-- Where there is an element: the address, and the cell. -/
theorem Strs.at {w : World} {a : Option Addr} {n c : Nat} {ss : List ByteArray} (h : Strs w a n c ss) (hn : 0 < n) : ∃ b off, a = some ⟨b, off, none⟩ ∧ b < w.heap.size ∧ ∀ i, i < n → w.cell? ⟨b, off + i, none⟩ = some (.string (ss.getD i ByteArray.empty)) :=
  h.cells.resolve_left (by omega)

theorem Blks.at {w : World} {a : Option Addr} {n c : Nat} {bs : List (List ByteArray)} (h : Blks w a n c bs) (hn : 0 < n) :
    ∃ b off, a = some ⟨b, off, none⟩ ∧ b < w.heap.size ∧ ∀ i, i < n → ∃ a' n' c', w.cell? ⟨b, off + i, none⟩ = some (.slice a' n' c') ∧ Strs w a' n' c' (bs.getD i []) :=
  h.cells.resolve_left (by omega)

end Go.Proofs.Qxb6605445a
