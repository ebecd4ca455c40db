/-
  The walk of FnLowerASCIIForgetsCaseAndIsIdempotent.
-/
import Derived.Test.Qxb6605590aFold
namespace Go.Proofs.Qxb6605590a
open Go.RowKit
set_option linter.unusedVariables false
set_option linter.unusedSimpArgs false

/-- It returned a bool. -/
def RetD (e : Ending) : Prop := ∃ r : Bool, e = .returned (.bool r)
theorem RetD.mk (r : Bool) : RetD (.returned (.bool r)) := ⟨r, rfl⟩

theorem bytes21_w (x : ByteArray) (w : World) : Calls Try.prog 21 #[.string x] w fun e w' => RetD e ∧ w' = w := by
  by_cases h1 : 1048576 < x.size
  · go_enter Try.func21, Try.ntmps21
    go_wp2
    go_ret
    exact ⟨RetD.mk _, rfl⟩
  go_enter Try.func21, Try.ntmps21
  go_wp2
  go_ret
  exact ⟨RetD.mk _, rfl⟩

theorem u8_ext {a b : UInt8} (h : a.toNat = b.toNat) : a = b := UInt8.toNat_inj.1 h
theorem low_rai (c : UInt8) : low (rai c) = low c := by
  by_cases h : 97 ≤ c.toNat ∧ c.toNat ≤ 122
  · have h1 := rai_in h.1 h.2
    apply u8_ext
    rw [low_in (by omega) (by omega), h1, low_out (c := c) (by omega)]
    omega
  · rw [rai_out (by omega)]
theorem low_low (c : UInt8) : low (low c) = low c := by
  by_cases h : 65 ≤ c.toNat ∧ c.toNat ≤ 90
  · have h1 := low_in h.1 h.2
    exact low_out (by omega)
  · rw [low_out (c := c) (by omega)]
    exact low_out (by omega)
theorem lowS_raiS (s : ByteArray) : lowS (raiS s) = lowS s := by
  unfold lowS raiS
  simp only [List.map_map]
  congr 2
  exact List.map_congr_left fun c _ => low_rai c
theorem lowS_lowS (s : ByteArray) : lowS (lowS s) = lowS s := by
  unfold lowS
  simp only [List.map_map]
  congr 2
  exact List.map_congr_left fun c _ => low_low c
theorem raiS_size (s : ByteArray) : (raiS s).size = s.size := by
  show (s.data.toList.map rai).toArray.size = s.data.size
  simp

set_option maxHeartbeats 1000000 in
theorem walk7 (x : ByteArray) (w : World) : Calls Try.prog 7 #[.string x] w fun e w' => e = .returned (.bool true) ∧ Below w.heap.size w w' := by
  by_cases h1 : 1048576 < x.size
  · go_enter Try.func7, Try.ntmps7
    go_wp2_with (go_at_call 21; refine (bytes21_w x _).mono ?_; rintro e w1 ⟨⟨r, rfl⟩, rfl⟩; cases r)
    all_goals (go_ret; exact ⟨rfl, Below.refl _ _⟩)
  go_enter Try.func7, Try.ntmps7
  go_wp2_with fail
  refine (bytes21_w x _).mono ?_
  rintro e w1 ⟨⟨r, rfl⟩, rfl⟩
  cases r
  · go_wp2
    go_ret
    exact ⟨rfl, Below.refl _ _⟩
  go_wp2_with fail
  refine (lower_w x _ (by omega)).mono ?_
  rintro e w2 ⟨rfl, hb2⟩
  go_wp2_with fail
  refine (raise_w x _ (by omega)).mono ?_
  rintro e w3 ⟨rfl, hb3⟩
  go_wp2_with fail
  refine (lower_w (raiS x) _ (by rw [raiS_size]; omega)).mono ?_
  rintro e w4 ⟨rfl, hb4⟩
  rw [lowS_raiS]
  go_wp2_with fail
  refine (lower_w (lowS x) _ (by rw [lowS_size]; omega)).mono ?_
  rintro e w5 ⟨rfl, hb5⟩
  rw [lowS_lowS]
  have e1 := lowS_size x
  have hbw : Below w1.heap.size w1 w5 := ((hb2.trans (hb3.mono hb2.size)).trans (hb4.mono (Nat.le_trans hb2.size hb3.size))).trans (hb5.mono (Nat.le_trans (Nat.le_trans hb2.size hb3.size) hb4.size))
  clear hb2 hb3 hb4 hb5
  generalize lowS x = r at *
  go_wp2
  go_ret
  exact ⟨rfl, hbw⟩

end Go.Proofs.Qxb6605590a
