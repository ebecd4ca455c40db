/-
  The arguments of a row, opened into the words of Qxb6605445aMem.
-/
import Derived.Test.Qxb6605445aRows
import Derived.Test.Qxb6605445aMem
import Derived.ProofKit
import Derived.OpenShut
import Derived.ShutString
import Derived.ChangeOld
import Derived.SliceStrings
import Derived.Deep.Slices
namespace Go.Proofs.Qxb6605445a
open Go.ChangeShapes Go.WideShapes Go.ChangeAt Go.RowKit
open Go.ChangeMaps (open_string shut_string)
set_option linter.unusedVariables false
set_option linter.unusedSimpArgs false

theorem own : ownKnob Try.prog.godebug = none := by kernel_rfl
theorem laidOut : laidOutB Try.prog = true := by kernel_rfl
theorem cells9 : Try.prog.cellsOf 9 = 1 := by kernel_rfl
theorem cells22 : Try.prog.cellsOf 22 = 1 := by kernel_rfl

section
variable {H : Type} {enc : TypeId × Value → H} {W : World}

theorem open_strs {fuel : Nat} {v : Value} {x : DataW H × List MemPlace} (h : DataW.trod enc Try.prog W 0 (fun _ => true) true fuel 22 [v] = some x) : ∃ a n c ss, v = .slice a n c ∧ Strs W a n c ss := by
  rcases open_strings Try.underlying22 Try.underlying9 cells9 h with ⟨hcs, _⟩ | ⟨a, len, cap, ss, hcs, _, hl, hm, hz, _, hcell, _⟩
  · simp only [List.cons.injEq, and_true] at hcs
    exact ⟨_, _, _, [], hcs, Strs.nil W⟩
  · simp only [List.cons.injEq, and_true] at hcs
    simp only [if_true] at hz
    refine ⟨_, _, _, ss.take len, hcs, by simp; omega, hl, hm, ?_⟩
    by_cases h0 : len = 0
    · exact .inl h0
    · obtain ⟨b, off, spot⟩ := a
      have hc := hcell 0 (by omega)
      have hspot : spot = none := by simpa [Addr.add] using World.cell?_spot hc
      subst hspot
      refine .inr ⟨b, off, rfl, ?_, fun i hi => ?_⟩
      · have := World.block_lt_of_cell? W _ hc
        simpa [Addr.add] using this
      · have := hcell i (by omega)
        rw [add_plain] at this
        rw [this]
        simp [List.getD, List.getElem?_take, hi]

theorem open_blks {fuel : Nat} {v : Value} {x : DataW H × List MemPlace} (h : DataW.trod enc Try.prog W 0 (fun _ => true) true fuel 25 [v] = some x) : ∃ a n c bs, v = .slice a n c ∧ Blks W a n c bs := by
  rcases Deep.open_slice1 Try.underlying25 cells22 h with ⟨hcs, _⟩ | ⟨a, len, cap, m, n, V, D, Pl, hcs, _, hl, hm, hmm, _, hx⟩
  · simp only [List.cons.injEq, and_true] at hcs
    exact ⟨_, _, _, [], hcs, Blks.nil W⟩
  · simp only [List.cons.injEq, and_true] at hcs
    simp only [if_true] at hmm
    subst hmm
    obtain ⟨S, hS⟩ := Deep.choose_lt (α := List ByteArray) (n := m) (p := fun i ss => ∃ a n c, V i = .slice a n c ∧ Strs W a n c ss) (fun i hi => by
      obtain ⟨a, n, c, ss, e, hs⟩ := open_strs (hx i hi).2
      exact ⟨ss, a, n, c, e, hs⟩)
    refine ⟨_, _, _, (List.range len).map S, hcs, by simp, hl, hm, ?_⟩
    by_cases h0 : len = 0
    · exact .inl h0
    · obtain ⟨b, off, spot⟩ := a
      have hc := (hx 0 (by omega)).1
      have hspot : spot = none := by simpa [Addr.add] using World.cell?_spot hc
      subst hspot
      refine .inr ⟨b, off, rfl, ?_, fun i hi => ?_⟩
      · have := World.block_lt_of_cell? W _ hc
        simpa [Addr.add] using this
      · obtain ⟨a', n', c', e, hs⟩ := hS i (by omega)
        have := (hx i (by omega)).1
        rw [add_plain, e] at this
        exact ⟨a', n', c', this, by simpa [List.getD, hi] using hs⟩

end
end Go.Proofs.Qxb6605445a
