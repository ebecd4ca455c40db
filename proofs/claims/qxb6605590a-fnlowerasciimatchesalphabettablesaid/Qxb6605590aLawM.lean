/-
  The walk of FnLowerASCIIMatchesAlphabetTable.
-/
import Derived.Test.Qxb6605590aFold
namespace Go.Proofs.Qxb6605590a
open Go.RowKit
set_option linter.unusedVariables false
set_option linter.unusedSimpArgs false

/-- It returned a bool. -/
def RetC (e : Ending) : Prop := ∃ r : Bool, e = .returned (.bool r)
theorem RetC.mk (r : Bool) : RetC (.returned (.bool r)) := ⟨r, rfl⟩

theorem bytes18_w (x : ByteArray) (w : World) : Calls Try.prog 18 #[.string x] w fun e w' => RetC e ∧ w' = w := by
  by_cases h1 : 1048576 < x.size
  · go_enter Try.func18, Try.ntmps18
    go_wp2
    go_ret
    exact ⟨RetC.mk _, rfl⟩
  go_enter Try.func18, Try.ntmps18
  go_wp2
  go_ret
  exact ⟨RetC.mk _, rfl⟩

set_option maxHeartbeats 1000000 in
theorem walk6 (x : ByteArray) (w : World) : Calls Try.prog 6 #[.string x] w fun e w' => e = .returned (.bool true) ∧ Below w.heap.size w w' := by
  by_cases h1 : 1048576 < x.size
  · go_enter Try.func6, Try.ntmps6
    go_wp2_with (go_at_call 18; refine (bytes18_w x _).mono ?_; rintro e w1 ⟨⟨r, rfl⟩, rfl⟩; cases r)
    all_goals (go_ret; exact ⟨rfl, Below.refl _ _⟩)
  go_enter Try.func6, Try.ntmps6
  go_wp2_with fail
  refine (bytes18_w x _).mono ?_
  rintro e w1 ⟨⟨r, rfl⟩, rfl⟩
  cases r
  · go_wp2
    go_ret
    exact ⟨rfl, Below.refl _ _⟩
  go_wp2_with fail
  refine (lower_w x _ (by omega)).mono ?_
  rintro e w2 ⟨rfl, hb2⟩
  have e1 := lowS_size x
  have HAt : Hid (∀ t, (h : t < x.size) → (h' : t < (lowS x).size) → (lowS x)[t] = low x[t]) := fun t h h' => by
    rw [← at0_eq (lowS x) t h', lowS_at x t h, at0_eq x t h]
  generalize lowS x = r at *
  go_wp2
  go_loopw [4] (fun i wr => ∃ k q : Nat, k ≤ x.size ∧ i = .int .i64 k ∧ wr = w2.drewN q) (fun i _ => x.size - (intOf i).toNat)
  case atStart => exact ⟨0, 0, Nat.zero_le _, rfl, rfl⟩
  case round =>
    obtain ⟨k, q, hk, rfl, rfl⟩ := hrel
    by_cases hlt : k < x.size
    · have hlt2 : k < r.size := by rw [e1]; exact hlt
      have hat := HAt.out k hlt hlt2
      have hf := fun w => fold_w x[k] w
      have HF := hide hf
      clear hf
      clear e1
      go_wp2
      go_quiet ((go_at_call 20; exact (HF.out _).mono fun _ _ hh => ⟨hh.1, _, hh.2⟩))
      go_wp2
      go_roundw
      case rel => exact ⟨k + 1, _, by omega, by go_num, rfl⟩
      case measure => simp [intOf]; omega
    · go_wp2
      go_ret
      exact ⟨rfl, below_drewN hb2 _⟩

end Go.Proofs.Qxb6605590a
