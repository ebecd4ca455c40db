/-
  zzBytes of the laws over []string, zzStringsSmall, ZZNewNameSet.
-/
import Derived.Test.Qxb6605445aWkF
import Derived.Test.Qxb6605445aWkN
namespace Go.Proofs.Qxb6605445a
open Go.RowKit
set_option linter.unusedVariables false
set_option linter.unusedSimpArgs false

set_option maxHeartbeats 1000000 in
theorem bytes8_w (a : Option Addr) (n c : Nat) (ss : List ByteArray) (w : World) (h : Strs w a n c ss) :
    Calls Try.prog 8 #[.slice a n c] w fun e w' => RetIf e True ∧ w' = w := by
  have hc := h.cap
  have hle := h.le
  unfold maxLen at hc
  by_cases hbig : 1048576 < n
  · go_enter Try.func8, Try.ntmps8
    go_wp2
    go_ret
    exact ⟨RetIf.no, rfl⟩
  go_enter Try.func8, Try.ntmps8
  go_wp2
  go_loop [3, 4] (fun s i => ∃ (k z : Nat), k ≤ n ∧ i = .int .i64 k ∧ s = .int .i64 z ∧ z ≤ 1048576) (fun _ i => n - (intOf i).toNat)
  case atStart => exact ⟨0, n, Nat.zero_le _, rfl, by go_num, by omega⟩
  case round =>
    obtain ⟨k, z, hk, rfl, rfl, hz⟩ := hrel
    by_cases hlt : k < n
    · obtain ⟨b, off, rfl, hbl, g⟩ := h.at (by omega)
      have e2 := g k hlt
      clear g
      generalize hx : ss.getD k ByteArray.empty = x at e2
      clear hx
      by_cases hb3 : 1048576 < x.size
      · go_wp2
        go_ret
        exact ⟨RetIf.no, rfl⟩
      by_cases hb4 : 1048576 < z + x.size
      · go_wp2
        go_ret
        exact ⟨RetIf.no, rfl⟩
      go_wp2
      go_round
      case rel => exact ⟨k + 1, z + x.size, by omega, by go_num, by go_num, by omega⟩
      case measure => simp [intOf]; omega
    · go_wp2
      go_ret
      exact ⟨RetIf.yes trivial, rfl⟩

set_option maxHeartbeats 1000000 in
theorem bytes19_w (a : Option Addr) (n c : Nat) (ss : List ByteArray) (w : World) (h : Strs w a n c ss) :
    Calls Try.prog 19 #[.slice a n c] w fun e w' => RetIf e True ∧ w' = w := by
  have hc := h.cap
  have hle := h.le
  unfold maxLen at hc
  by_cases hbig : 1048576 < n
  · go_enter Try.func19, Try.ntmps19
    go_wp2
    go_ret
    exact ⟨RetIf.no, rfl⟩
  go_enter Try.func19, Try.ntmps19
  go_wp2
  go_loop [3, 4] (fun s i => ∃ (k z : Nat), k ≤ n ∧ i = .int .i64 k ∧ s = .int .i64 z ∧ z ≤ 1048576) (fun _ i => n - (intOf i).toNat)
  case atStart => exact ⟨0, n, Nat.zero_le _, rfl, by go_num, by omega⟩
  case round =>
    obtain ⟨k, z, hk, rfl, rfl, hz⟩ := hrel
    by_cases hlt : k < n
    · obtain ⟨b, off, rfl, hbl, g⟩ := h.at (by omega)
      have e2 := g k hlt
      clear g
      generalize hx : ss.getD k ByteArray.empty = x at e2
      clear hx
      by_cases hb3 : 1048576 < x.size
      · go_wp2
        go_ret
        exact ⟨RetIf.no, rfl⟩
      by_cases hb4 : 1048576 < z + x.size
      · go_wp2
        go_ret
        exact ⟨RetIf.no, rfl⟩
      go_wp2
      go_round
      case rel => exact ⟨k + 1, z + x.size, by omega, by go_num, by go_num, by omega⟩
      case measure => simp [intOf]; omega
    · go_wp2
      go_ret
      exact ⟨RetIf.yes trivial, rfl⟩

set_option maxHeartbeats 1000000 in
theorem stringsSmall_w (a : Option Addr) (n c : Nat) (ss : List ByteArray) (w : World) (h : Strs w a n c ss) :
    Calls Try.prog 9 #[.slice a n c] w fun e w' => RetIf e (n ≤ 65536) ∧ w' = w := by
  have hc := h.cap
  have hle := h.le
  unfold maxLen at hc
  by_cases hbig : 65536 < n
  · go_enter Try.func9, Try.ntmps9
    go_wp2
    go_ret
    exact ⟨RetIf.no, rfl⟩
  go_enter Try.func9, Try.ntmps9
  go_wp2
  go_loop [3, 4] (fun s i => ∃ (k z : Nat), k ≤ n ∧ i = .int .i64 k ∧ s = .int .i64 z ∧ z ≤ 1048576) (fun _ i => n - (intOf i).toNat)
  case atStart => exact ⟨0, n * 16, Nat.zero_le _, rfl, by go_num, by omega⟩
  case round =>
    obtain ⟨k, z, hk, rfl, rfl, hz⟩ := hrel
    by_cases hlt : k < n
    · obtain ⟨b, off, rfl, hbl, g⟩ := h.at (by omega)
      have e2 := g k hlt
      clear g
      generalize hx : ss.getD k ByteArray.empty = x at e2
      clear hx
      by_cases hb3 : 1048576 < x.size
      · go_wp2
        go_ret
        exact ⟨RetIf.no, rfl⟩
      by_cases hb4 : 1048576 < z + x.size
      · go_wp2
        go_ret
        exact ⟨RetIf.no, rfl⟩
      go_wp2
      go_round
      case rel => exact ⟨k + 1, z + x.size, by omega, by go_num, by go_num, by omega⟩
      case measure => simp [intOf]; omega
    · have hz2 : decide ((z : Int) ≤ 1048576) = true := decide_eq_true (by omega)
      go_wp2
      go_ret
      refine ⟨?_, rfl⟩
      refine ⟨true, ?_, fun _ => by omega⟩
      first | rfl | simp [hz2] | exact congrArg (fun b => Ending.returned (.bool b)) hz2

/-- What ZZNewNameSet hands back. -/
def ZNewIs (w' : World) (n : Nat) (ss : List ByteArray) (e : Ending) : Prop :=
  ∃ (ab : Option Addr) (cb k : Nat), e = .returned (.slice ab k cb) ∧ Blks w' ab k cb (chunks (sortS ss) k) ∧ n ≤ 512 * k ∧ 512 * k < n + 512

set_option maxHeartbeats 1000000 in
theorem zzNewNameSet_w (a : Option Addr) (n c : Nat) (ss : List ByteArray) (w : World) (base : Nat) (h : Own w base a n c ss) (hn : n ≤ 65536) :
    Calls Try.prog 12 #[.slice a n c] w fun e w' => ZNewIs w' n ss e ∧ ∃ row, (∀ j, row = some j → (Value.slice a n c).ownBlock = some j) ∧ w.grownBy w' row := by
  have H := hide h
  clear h
  go_enter Try.func12, Try.ntmps12
  go_wp2_with fail
  refine (newNameSet_w a n c ss w base H.out hn).mono ?_
  rintro e w1 ⟨⟨S, ab, cb, k, rfl, hcell, hb, h1, h2⟩, hrow⟩
  have HR := hide (And.intro hb (And.intro h1 (And.intro h2 hrow)))
  clear hb h1 h2 hrow
  go_wp2
  go_ret
  exact ⟨⟨ab, cb, k, rfl, HR.out.1, HR.out.2.1, HR.out.2.2.1⟩, HR.out.2.2.2⟩

end Go.Proofs.Qxb6605445a
