/-
  The leaves of the roads: zzHasPrefix, strings.HasPrefix, zzEqualStrings.
-/
import Derived.Test.Qxb6605445aMem
import Derived.Test.Qxb6605445aProg
namespace Go.Proofs.Qxb6605445a
open Go.RowKit

/-- Does s begin with p? -/
def hp (s p : ByteArray) : Bool := decide (p.size ≤ s.size ∧ s.extract 0 p.size = p)

theorem hp_beq (s p : ByteArray) (h : p.size ≤ s.size) : ((s.extract 0 p.size).toList == p.toList) = hp s p := by rw [beq_toList]; simp [hp, h]
theorem hp_short (s p : ByteArray) (h : ¬ p.size ≤ s.size) : hp s p = false := by simp [hp, h]

theorem hasPrefix_w (s p : ByteArray) (w : World) : Calls Try.prog 22 #[.string s, .string p] w fun e w' => e = .returned (.bool (hp s p)) ∧ w' = w := by
  by_cases h : p.size ≤ s.size
  · go_enter Try.func22, Try.ntmps22
    go_wp2
    go_ret
    exact ⟨ret_bool (hp_beq s p h), rfl⟩
  · go_enter Try.func22, Try.ntmps22
    go_wp2
    go_ret
    exact ⟨ret_bool (hp_short s p h).symm, rfl⟩

theorem stringsHasPrefix_w (s p : ByteArray) (w : World) : Calls Try.prog 48 #[.string s, .string p] w fun e w' => e = .returned (.bool (hp s p)) ∧ w' = w := by
  by_cases h : p.size ≤ s.size
  · go_enter Try.func48, Try.ntmps48
    go_wp2
    go_ret
    exact ⟨ret_bool (hp_beq s p h), rfl⟩
  · go_enter Try.func48, Try.ntmps48
    go_wp2
    go_ret
    exact ⟨ret_bool (hp_short s p h).symm, rfl⟩

theorem take_snoc {α : Type} (d : α) (l : List α) (k : Nat) (h : k < l.length) : l.take (k + 1) = l.take k ++ [l.getD k d] := by
  rw [List.take_succ_eq_append_getElem h]
  simp [List.getD, h]

theorem getD_ne {xs ys : List ByteArray} {k : Nat} (h : xs.getD k ByteArray.empty ≠ ys.getD k ByteArray.empty) : xs ≠ ys := fun e => h (by rw [e])

set_option maxHeartbeats 400000 in
theorem equal_w (a1 : Option Addr) (n1 c1 : Nat) (xs : List ByteArray) (a2 : Option Addr) (n2 c2 : Nat) (ys : List ByteArray) (w : World) (h1 : Strs w a1 n1 c1 xs) (h2 : Strs w a2 n2 c2 ys) :
    Calls Try.prog 20 #[.slice a1 n1 c1, .slice a2 n2 c2] w fun e w' => e = .returned (.bool (decide (xs = ys))) ∧ ∃ q, w' = w.drewN q := by
  have hm1 := h1.cap; have hm2 := h2.cap; have l1 := h1.le; have l2 := h2.le
  unfold maxLen at hm1 hm2
  by_cases hn : n1 = n2
  · subst hn
    go_enter Try.func20, Try.ntmps20
    go_wp2
    go_loopw [5] (fun i wr => ∃ k q : Nat, k ≤ n1 ∧ i = .int .i64 k ∧ xs.take k = ys.take k ∧ wr = w.drewN q) (fun i _ => n1 - (intOf i).toNat)
    case atStart => exact ⟨0, 0, Nat.zero_le _, rfl, rfl, rfl⟩
    case round =>
      obtain ⟨k, q, hk, rfl, htk, rfl⟩ := hrel
      have HT := hide htk
      clear htk
      by_cases hlt : k < n1
      · obtain ⟨b1, o1, rfl, _, g1⟩ := h1.at (by omega)
        obtain ⟨b2, o2, rfl, _, g2⟩ := h2.at (by omega)
        have e1 := g1 k hlt
        have e2 := g2 k hlt
        clear g1 g2
        generalize hx : xs.getD k ByteArray.empty = x at e1
        generalize hy : ys.getD k ByteArray.empty = y at e2
        have HX := hide hx
        have HY := hide hy
        clear hx hy
        by_cases hxy : x = y
        · subst hxy
          go_wp2
          go_quiet (fail)
          go_wp2
          go_roundw
          case rel => exact ⟨k + 1, _, by omega, by go_num, by rw [take_snoc ByteArray.empty xs k (by rw [h1.len]; exact hlt), take_snoc ByteArray.empty ys k (by rw [h2.len]; exact hlt), HT.out, HX.out, HY.out], rfl⟩
          case measure => simp [intOf]; omega
        · have hb : (x.toList == y.toList) = false := by rw [beq_toList]; simp [hxy]
          go_wp2
          go_quiet (fail)
          go_wp2
          go_ret
          exact ⟨ret_bool (decide_eq_false (getD_ne (k := k) (by rw [HX.out, HY.out]; exact hxy))).symm, q + nq, by simp [World.drewN_drewN]⟩
      · go_wp2
        go_ret
        have e := HT.out
        rw [List.take_of_length_le (by rw [h1.len]; omega), List.take_of_length_le (by rw [h2.len]; omega)] at e
        exact ⟨ret_bool (decide_eq_true e).symm, q, rfl⟩
  · have hb : ((n1 : Int) != (n2 : Int)) = true := by rw [bne_iff_ne]; omega
    go_enter Try.func20, Try.ntmps20
    go_wp2
    go_ret
    exact ⟨ret_bool (decide_eq_false fun e => hn (by rw [← h1.len, ← h2.len, e])).symm, 0, rfl⟩

end Go.Proofs.Qxb6605445a
