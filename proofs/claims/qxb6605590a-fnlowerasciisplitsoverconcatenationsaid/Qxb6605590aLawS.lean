/-
  The walk of FnLowerASCIISplitsOverConcatenation.
-/
import Derived.Test.Qxb6605590aLow
namespace Go.Proofs.Qxb6605590a
open Go.RowKit
set_option linter.unusedVariables false
set_option linter.unusedSimpArgs false

/-- It returned a bool. -/
def RetB (e : Ending) : Prop := ∃ r : Bool, e = .returned (.bool r)
theorem RetB.mk (r : Bool) : RetB (.returned (.bool r)) := ⟨r, rfl⟩

theorem bytes23_w (x y : ByteArray) (w : World) : Calls Try.prog 23 #[.string x, .string y] w fun e w' => RetB e ∧ w' = w := by
  by_cases h1 : 1048576 < x.size
  · go_enter Try.func23, Try.ntmps23
    go_wp2
    go_ret
    exact ⟨RetB.mk _, rfl⟩
  by_cases h2 : 1048576 < y.size
  · go_enter Try.func23, Try.ntmps23
    go_wp2
    go_ret
    exact ⟨RetB.mk _, rfl⟩
  by_cases h3 : 1048576 < x.size + y.size
  · go_enter Try.func23, Try.ntmps23
    go_wp2
    go_ret
    exact ⟨RetB.mk _, rfl⟩
  go_enter Try.func23, Try.ntmps23
  go_wp2
  go_ret
  exact ⟨RetB.mk _, rfl⟩

theorem lowS_append (x y : ByteArray) : lowS (x ++ y) = lowS x ++ lowS y := by
  unfold lowS
  have e : (x ++ y).data.toList = x.data.toList ++ y.data.toList := by simp [ByteArray.data_append]
  rw [e, List.map_append]
  apply ByteArray.ext
  simp [ByteArray.data_append]
theorem low_not (c : UInt8) : ¬ (65 ≤ (low c).toNat ∧ (low c).toNat ≤ 90) := by
  by_cases h : 65 ≤ c.toNat ∧ c.toNat ≤ 90
  · have := low_in h.1 h.2
    omega
  · rw [low_out (by omega)]
    exact h
theorem lowS_not (s : ByteArray) (t : Nat) (h : t < (lowS s).size) : ¬ (65 ≤ (lowS s)[t].toNat ∧ (lowS s)[t].toNat ≤ 90) := by
  rw [← at0_eq (lowS s) t h, lowS_at s t (by rwa [lowS_size] at h)]
  exact low_not _

set_option maxHeartbeats 1000000 in
theorem walk8 (x y : ByteArray) (w : World) : Calls Try.prog 8 #[.string x, .string y] w fun e w' => e = .returned (.bool true) ∧ Below w.heap.size w w' := by
  by_cases h1 : 524288 < x.size
  · go_enter Try.func8, Try.ntmps8
    go_wp2_with (go_at_call 23; refine (bytes23_w x y _).mono ?_; rintro e w1 ⟨⟨r, rfl⟩, rfl⟩; cases r)
    all_goals (go_ret; exact ⟨rfl, Below.refl _ _⟩)
  by_cases h2 : 524288 < y.size
  · go_enter Try.func8, Try.ntmps8
    go_wp2_with (go_at_call 23; refine (bytes23_w x y _).mono ?_; rintro e w1 ⟨⟨r, rfl⟩, rfl⟩; cases r)
    all_goals (go_ret; exact ⟨rfl, Below.refl _ _⟩)
  go_enter Try.func8, Try.ntmps8
  go_wp2_with fail
  refine (bytes23_w x y _).mono ?_
  rintro e w1 ⟨⟨r, rfl⟩, rfl⟩
  cases r
  · go_wp2
    go_ret
    exact ⟨rfl, Below.refl _ _⟩
  go_wp2_with fail
  have hxy : (x ++ y).size ≤ 1048576 := by rw [ByteArray.size_append]; omega
  refine (lower_w (x ++ y) _ hxy).mono ?_
  rintro e w2 ⟨rfl, hb2⟩
  have HNot : Hid (∀ t (h : t < (lowS x ++ lowS y).size), ¬ (65 ≤ (lowS x ++ lowS y)[t].toNat ∧ (lowS x ++ lowS y)[t].toNat ≤ 90)) := by rw [← lowS_append]; exact lowS_not _
  have hsz : (lowS x ++ lowS y).size ≤ 1048576 := by rw [← lowS_append, lowS_size]; exact hxy
  rw [lowS_append]
  go_wp2_with fail
  refine (lower_w x _ (by omega)).mono ?_
  rintro e w3 ⟨rfl, hb3⟩
  go_wp2_with fail
  refine (lower_w y _ (by omega)).mono ?_
  rintro e w4 ⟨rfl, hb4⟩
  have hbw : Below w1.heap.size w1 w4 := (hb2.trans (hb3.mono hb2.size)).trans (hb4.mono (Nat.le_trans hb2.size hb3.size))
  have e1 := lowS_size x
  have e2 := lowS_size y
  clear hb2 hb3 hb4
  generalize lowS x = rx at *
  generalize lowS y = ry at *
  go_wp2
  clear e1 e2 hxy
  generalize rx ++ ry = r at *
  go_loop [6] (fun i => ∃ k : Nat, k ≤ r.size ∧ i = .int .i64 k) (fun i => r.size - (intOf i).toNat)
  case atStart => exact ⟨0, Nat.zero_le _, rfl⟩
  case round =>
    obtain ⟨k, hk, rfl⟩ := hrel
    by_cases hlt : k < r.size
    · have hn := HNot.out k hlt
      by_cases h65 : 65 ≤ r[k].toNat
      · have h90 : 90 < r[k].toNat := by omega
        clear hn
        go_wp2
        go_round
        case rel => exact ⟨k + 1, by omega, by go_num⟩
        case measure => simp [intOf]; omega
      · clear hn
        go_wp2
        go_round
        case rel => exact ⟨k + 1, by omega, by go_num⟩
        case measure => simp [intOf]; omega
    · go_wp2
      go_ret
      exact ⟨rfl, hbw⟩

end Go.Proofs.Qxb6605590a
