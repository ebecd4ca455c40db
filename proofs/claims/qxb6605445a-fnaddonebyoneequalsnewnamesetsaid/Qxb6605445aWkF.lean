/-
  zzBlocksSmall, zzBytes_FnAfter...: bounds.
-/
import Derived.Test.Qxb6605445aWkE
namespace Go.Proofs.Qxb6605445a
open Go.RowKit
set_option linter.unusedVariables false
set_option linter.unusedSimpArgs false

/-- It returned a bool; where that is true, p holds. -/
def RetIf (e : Ending) (p : Prop) : Prop := ∃ r : Bool, e = .returned (.bool r) ∧ (r = true → p)
theorem RetIf.yes {p : Prop} (h : p) : RetIf (.returned (.bool true)) p := ⟨true, rfl, fun _ => h⟩
theorem RetIf.no {p : Prop} : RetIf (.returned (.bool false)) p := ⟨false, rfl, fun h => by cases h⟩

theorem count_next (bs : List (List ByteArray)) (k n1 z : Nat) (hk : k < bs.length) (hn : (bs.getD k []).length = n1) (h : 16 * (bs.take k).flatten.length ≤ z) : 16 * (bs.take (k + 1)).flatten.length ≤ z + n1 * 16 := by
  rw [flat_snoc bs k hk, List.length_append, hn]; omega

set_option maxHeartbeats 1000000 in
theorem blocksSmall_w (a : Option Addr) (n c : Nat) (bs : List (List ByteArray)) (E : Int) (w : World) (h : Blks w a n c bs) (hE : 0 ≤ E) (hE2 : E ≤ 4194304) :
    Calls Try.prog 14 #[.slice a n c, .int .i64 E] w fun e w' => RetIf e (n ≤ 65536 ∧ bs.flatten.length ≤ 65536) ∧ w' = w := by
  have HL := hide h.len
  have hc := h.cap
  have hle := h.le
  unfold maxLen at hc
  obtain ⟨E, rfl⟩ := Int.eq_ofNat_of_zero_le hE
  by_cases hbig : 65536 < n
  · go_enter Try.func14, Try.ntmps14
    go_wp2
    go_ret
    exact ⟨RetIf.no, rfl⟩
  by_cases hbig2 : 1048576 < E + n * 24
  · go_enter Try.func14, Try.ntmps14
    go_wp2
    go_ret
    exact ⟨RetIf.no, rfl⟩
  go_enter Try.func14, Try.ntmps14
  go_wp2
  go_loop [5, 6] (fun s i => ∃ (k z : Nat), k ≤ n ∧ i = .int .i64 k ∧ s = .int .i64 z ∧ z ≤ 1048576 ∧ Hid (16 * (bs.take k).flatten.length ≤ z)) (fun _ i => n - (intOf i).toNat)
  case atStart => exact ⟨0, E + n * 24, Nat.zero_le _, rfl, by go_num, by omega, by show 16 * _ ≤ _; simp⟩
  case round =>
    obtain ⟨k, z, hk, rfl, rfl, hz, HZ⟩ := hrel
    by_cases hlt : k < n
    · obtain ⟨b, off, rfl, hbl, g⟩ := h.at (by omega)
      obtain ⟨a1, n1, c1, g1, g2⟩ := g k hlt
      have hkb : k < bs.length := by rw [HL.out]; exact hlt
      have hc1 := g2.cap
      have hl1 := g2.le
      unfold maxLen at hc1
      clear g
      by_cases hb1 : 65536 < n1
      · go_wp2
        go_ret
        exact ⟨RetIf.no, rfl⟩
      by_cases hb2 : 1048576 < z + n1 * 16
      · go_wp2
        go_ret
        exact ⟨RetIf.no, rfl⟩
      have HZ1 := hide (count_next bs k n1 z hkb g2.len HZ.out)
      go_wp2
      go_loop [5, 7] (fun s i => ∃ (t z : Nat), t ≤ n1 ∧ i = .int .i64 t ∧ s = .int .i64 z ∧ z ≤ 1048576 ∧ Hid (16 * (bs.take (k + 1)).flatten.length ≤ z)) (fun _ i => n1 - (intOf i).toNat)
      case atStart => exact ⟨0, z + n1 * 16, Nat.zero_le _, rfl, by go_num, by omega, HZ1⟩
      case round =>
        clear hz HZ HZ1 hb2
        obtain ⟨t, z, ht, rfl, rfl, hz, HZ⟩ := hrel
        by_cases hlt2 : t < n1
        · obtain ⟨b2, off2, rfl, hbl2, g3⟩ := g2.at (by omega)
          have e2 := g3 t hlt2
          clear g3
          generalize hx : (bs.getD k []).getD t ByteArray.empty = x at e2
          clear hx
          by_cases hb3 : 1048576 < x.size
          · go_wp2
            go_ret
            exact ⟨RetIf.no, rfl⟩
          by_cases hb4 : 1048576 < z + x.size
          · go_wp2
            go_ret
            exact ⟨RetIf.no, rfl⟩
          go_wp2
          go_round
          case rel => exact ⟨t + 1, z + x.size, by omega, by go_num, by go_num, by omega, by have := HZ.out; show 16 * _ ≤ _; omega⟩
          case measure => simp [intOf]; omega
        · go_wp2
          go_round
          case rel => exact ⟨k + 1, z, by omega, by go_num, rfl, hz, HZ⟩
          case measure => simp [intOf]; omega
    · have HB : Hid (bs.flatten.length ≤ 65536) := by
        have := HZ.out
        rw [List.take_of_length_le (by rw [HL.out]; omega)] at this
        show _ ≤ _
        omega
      go_wp2
      go_ret
      exact ⟨RetIf.yes ⟨by omega, by simpa using HB.out⟩, rfl⟩

set_option maxHeartbeats 1000000 in
theorem bytes21_w (a : Option Addr) (n c : Nat) (bs : List (List ByteArray)) (p : ByteArray) (q : ByteArray) (w : World) (h : Blks w a n c bs) :
    Calls Try.prog 21 #[.slice a n c, .string p, .string q] w fun e w' => RetIf e True ∧ w' = w := by
  have hc := h.cap
  have hle := h.le
  unfold maxLen at hc
  by_cases hbig : 1048576 < n
  · go_enter Try.func21, Try.ntmps21
    go_wp2
    go_ret
    exact ⟨RetIf.no, rfl⟩
  go_enter Try.func21, Try.ntmps21
  go_wp2
  go_loop [7, 8] (fun s i => ∃ (k z : Nat), k ≤ n ∧ i = .int .i64 k ∧ s = .int .i64 z ∧ z ≤ 1048576) (fun _ i => n - (intOf i).toNat)
  case atStart => exact ⟨0, n, Nat.zero_le _, rfl, by go_num, by omega⟩
  case round =>
    obtain ⟨k, z, hk, rfl, rfl, hz⟩ := hrel
    by_cases hlt : k < n
    · obtain ⟨b, off, rfl, hbl, g⟩ := h.at (by omega)
      obtain ⟨a1, n1, c1, g1, g2⟩ := g k hlt
      have hc1 := g2.cap
      have hl1 := g2.le
      unfold maxLen at hc1
      clear g
      by_cases hb1 : 1048576 < n1
      · go_wp2
        go_ret
        exact ⟨RetIf.no, rfl⟩
      by_cases hb2 : 1048576 < z + n1
      · go_wp2
        go_ret
        exact ⟨RetIf.no, rfl⟩
      go_wp2
      go_loop [7, 9] (fun s i => ∃ (t z : Nat), t ≤ n1 ∧ i = .int .i64 t ∧ s = .int .i64 z ∧ z ≤ 1048576) (fun _ i => n1 - (intOf i).toNat)
      case atStart => exact ⟨0, z + n1, Nat.zero_le _, rfl, by go_num, by omega⟩
      case round =>
        clear hz hb2
        obtain ⟨t, z, ht, rfl, rfl, hz⟩ := hrel
        by_cases hlt2 : t < n1
        · obtain ⟨b2, off2, rfl, hbl2, g3⟩ := g2.at (by omega)
          have e2 := g3 t hlt2
          clear g3
          generalize hx : (bs.getD k []).getD t ByteArray.empty = x at e2
          clear hx
          by_cases hb3 : 1048576 < x.size
          · go_wp2
            go_ret
            exact ⟨RetIf.no, rfl⟩
          by_cases hb4 : 1048576 < z + x.size
          · go_wp2
            go_ret
            exact ⟨RetIf.no, rfl⟩
          go_wp2
          go_round
          case rel => exact ⟨t + 1, z + x.size, by omega, by go_num, by go_num, by omega⟩
          case measure => simp [intOf]; omega
        · go_wp2
          go_round
          case rel => exact ⟨k + 1, z, by omega, by go_num, rfl, hz⟩
          case measure => simp [intOf]; omega
    · by_cases hsp : 1048576 < p.size
      · go_wp2
        go_ret
        exact ⟨RetIf.no, rfl⟩
      by_cases htp : 1048576 < z + p.size
      · go_wp2
        go_ret
        exact ⟨RetIf.no, rfl⟩
      by_cases hsq : 1048576 < q.size
      · go_wp2
        go_ret
        exact ⟨RetIf.no, rfl⟩
      by_cases htq : 1048576 < z + p.size + q.size
      · go_wp2
        go_ret
        exact ⟨RetIf.no, rfl⟩
      go_wp2
      go_ret
      exact ⟨RetIf.yes trivial, rfl⟩

set_option maxHeartbeats 1000000 in
theorem bytes24_w (a : Option Addr) (n c : Nat) (bs : List (List ByteArray)) (p : ByteArray) (q : ByteArray) (w : World) (h : Blks w a n c bs) :
    Calls Try.prog 24 #[.slice a n c, .string p, .string q] w fun e w' => RetIf e True ∧ w' = w := by
  have hc := h.cap
  have hle := h.le
  unfold maxLen at hc
  by_cases hbig : 1048576 < n
  · go_enter Try.func24, Try.ntmps24
    go_wp2
    go_ret
    exact ⟨RetIf.no, rfl⟩
  go_enter Try.func24, Try.ntmps24
  go_wp2
  go_loop [7, 8] (fun s i => ∃ (k z : Nat), k ≤ n ∧ i = .int .i64 k ∧ s = .int .i64 z ∧ z ≤ 1048576) (fun _ i => n - (intOf i).toNat)
  case atStart => exact ⟨0, n, Nat.zero_le _, rfl, by go_num, by omega⟩
  case round =>
    obtain ⟨k, z, hk, rfl, rfl, hz⟩ := hrel
    by_cases hlt : k < n
    · obtain ⟨b, off, rfl, hbl, g⟩ := h.at (by omega)
      obtain ⟨a1, n1, c1, g1, g2⟩ := g k hlt
      have hc1 := g2.cap
      have hl1 := g2.le
      unfold maxLen at hc1
      clear g
      by_cases hb1 : 1048576 < n1
      · go_wp2
        go_ret
        exact ⟨RetIf.no, rfl⟩
      by_cases hb2 : 1048576 < z + n1
      · go_wp2
        go_ret
        exact ⟨RetIf.no, rfl⟩
      go_wp2
      go_loop [7, 9] (fun s i => ∃ (t z : Nat), t ≤ n1 ∧ i = .int .i64 t ∧ s = .int .i64 z ∧ z ≤ 1048576) (fun _ i => n1 - (intOf i).toNat)
      case atStart => exact ⟨0, z + n1, Nat.zero_le _, rfl, by go_num, by omega⟩
      case round =>
        clear hz hb2
        obtain ⟨t, z, ht, rfl, rfl, hz⟩ := hrel
        by_cases hlt2 : t < n1
        · obtain ⟨b2, off2, rfl, hbl2, g3⟩ := g2.at (by omega)
          have e2 := g3 t hlt2
          clear g3
          generalize hx : (bs.getD k []).getD t ByteArray.empty = x at e2
          clear hx
          by_cases hb3 : 1048576 < x.size
          · go_wp2
            go_ret
            exact ⟨RetIf.no, rfl⟩
          by_cases hb4 : 1048576 < z + x.size
          · go_wp2
            go_ret
            exact ⟨RetIf.no, rfl⟩
          go_wp2
          go_round
          case rel => exact ⟨t + 1, z + x.size, by omega, by go_num, by go_num, by omega⟩
          case measure => simp [intOf]; omega
        · go_wp2
          go_round
          case rel => exact ⟨k + 1, z, by omega, by go_num, rfl, hz⟩
          case measure => simp [intOf]; omega
    · by_cases hsp : 1048576 < p.size
      · go_wp2
        go_ret
        exact ⟨RetIf.no, rfl⟩
      by_cases htp : 1048576 < z + p.size
      · go_wp2
        go_ret
        exact ⟨RetIf.no, rfl⟩
      by_cases hsq : 1048576 < q.size
      · go_wp2
        go_ret
        exact ⟨RetIf.no, rfl⟩
      by_cases htq : 1048576 < z + p.size + q.size
      · go_wp2
        go_ret
        exact ⟨RetIf.no, rfl⟩
      go_wp2
      go_ret
      exact ⟨RetIf.yes trivial, rfl⟩

end Go.Proofs.Qxb6605445a
