/-
  zzFlatten: the names of all blocks, one behind the other, in a new row.
-/
import Derived.Test.Qxb6605445aWkC
namespace Go.Proofs.Qxb6605445a
open Go.RowKit
set_option linter.unusedVariables false
set_option linter.unusedSimpArgs false

theorem flat_snoc {α : Type} (bs : List (List α)) (k : Nat) (h : k < bs.length) : (bs.take (k + 1)).flatten = (bs.take k).flatten ++ bs.getD k [] := by
  rw [take_snoc [] bs k h]
  simp

theorem flat_le {α : Type} (bs : List (List α)) (k : Nat) : (bs.take k).flatten.length ≤ bs.flatten.length := by
  have h : bs.flatten = (bs.take k).flatten ++ (bs.drop k).flatten := by rw [← List.flatten_append, List.take_append_drop]
  rw [h, List.length_append]
  omega

theorem flat_le2 {α : Type} (bs : List (List α)) (k : Nat) (h : k < bs.length) : (bs.take k).flatten.length + (bs.getD k []).length ≤ bs.flatten.length := by
  have := flat_le bs (k + 1)
  rw [flat_snoc bs k h, List.length_append] at this
  exact this

set_option maxHeartbeats 1000000 in
theorem flatten_w (a : Option Addr) (n c : Nat) (bs : List (List ByteArray)) (w : World) (h : Blks w a n c bs) (hn : n ≤ 1048576) (hb : bs.flatten.length ≤ 1048576) :
    Calls Try.prog 17 #[.slice a n c] w fun e w' => ∃ a', e = .returned (.slice a' bs.flatten.length bs.flatten.length) ∧ w'.ownsRow w.heap.size 9 1 (.slice a' bs.flatten.length bs.flatten.length) bs.flatten.length (bs.flatten.map .string) ∧ Below w.heap.size w w' := by
  obtain ⟨i0, hi, hz0, hz1, hz2⟩ := info_parts info9
  have HL := hide h.len
  generalize hN : bs.flatten.length = N at hb
  have HN := hide hN
  clear hN
  go_enter Try.func17, Try.ntmps17
  go_wp2
  go_loop [3, 4] (fun s i => ∃ k m : Nat, k ≤ n ∧ i = .int .i64 k ∧ s = .int .i64 m ∧ m ≤ 1048576 ∧ Hid (m = (bs.take k).flatten.length)) (fun _ i => n - (intOf i).toNat)
  case atStart => exact ⟨0, 0, Nat.zero_le _, rfl, rfl, by omega, rfl⟩
  case round =>
    obtain ⟨k, m, hk, rfl, rfl, hm, HM⟩ := hrel
    by_cases hlt : k < n
    · obtain ⟨b, off, rfl, hbl, g⟩ := h.at (by omega)
      obtain ⟨a1, n1, c1, g1, g2⟩ := g k hlt
      have hkb : k < bs.length := by rw [HL.out]; exact hlt
      have hs : m + n1 ≤ 1048576 := by have := flat_le2 bs k hkb; rw [g2.len, ← HM.out, HN.out] at this; omega
      have HG := hide g2.len
      clear g g2
      go_wp2
      go_round
      case rel => exact ⟨k + 1, m + n1, by omega, by go_num, by go_num, hs, by show m + n1 = _; rw [flat_snoc bs k hkb, List.length_append, HG.out, HM.out]⟩
      case measure => simp [intOf]; omega
    · obtain rfl : k = n := by omega
      obtain rfl : m = N := by rw [HM.out, List.take_of_length_le (by rw [HL.out]; exact Nat.le_refl _), HN.out]
      clear hlt HM
      go_wp2_with (at_make; refine wpList_make_own _ rfl _ _ 22 rfl w.heap.size 9 i0 (.string ByteArray.empty) 1 Try.underlying22 hi hz0 hz1 _ _ _ m rfl rfl (by omega) ?b2 ?b3 (Nat.le_refl _) ?_)
      case b2 => (try rw [hz2]); omega
      case b3 => unfold maxLen; omega
      intro w0 hown0 hgrow0
      have hsz0 : w.heap.size < w0.heap.size := (hown0.lt _ rfl).2
      go_wp2
      go_loopw [5, 6] (fun v i wr => ∃ j z : Nat, j ≤ k ∧ i = .int .i64 j ∧ v = .slice (some ⟨w.heap.size, 0, none⟩) z m ∧ Hid (z = (bs.take j).flatten.length) ∧ wr.ownsRow w.heap.size 9 1 (.slice (some ⟨w.heap.size, 0, none⟩) z m) z ((bs.take j).flatten.map .string) ∧ w.heap.size < wr.heap.size ∧ Below w.heap.size w wr) (fun _ i _ => k - (intOf i).toNat)
      case atStart => exact ⟨0, 0, Nat.zero_le _, rfl, rfl, rfl, hown0, hsz0, (Below.refl _ _).grown hgrow0 (Nat.le_refl _) (fun k h => by cases h)⟩
      case round =>
        obtain ⟨j, z, hj, rfl, rfl, HZ, hown, hsz, hbel⟩ := hrel
        clear hown0 hgrow0 hsz0
        by_cases hlt : j < k
        · obtain ⟨b, off, rfl, hbl, g⟩ := h.at (by omega)
          obtain ⟨a1, n1, c1, g1, g2⟩ := g j hlt
          have hjb : j < bs.length := by rw [HL.out]; exact hlt
          have hzn : z + n1 ≤ m := by have := flat_le2 bs j hjb; rw [g2.len, ← HZ.out, HN.out] at this; omega
          clear g
          have hc1 := g2.cap
          have hl1 := g2.le
          unfold maxLen at hc1
          go_wp2
          go_loopw [5, 7] (fun v i wr => ∃ t : Nat, t ≤ n1 ∧ i = .int .i64 t ∧ v = .slice (some ⟨w.heap.size, 0, none⟩) (z + t) m ∧ wr.ownsRow w.heap.size 9 1 (.slice (some ⟨w.heap.size, 0, none⟩) (z + t) m) (z + t) (((bs.take j).flatten ++ (bs.getD j []).take t).map .string) ∧ w.heap.size < wr.heap.size ∧ Below w.heap.size w wr) (fun _ i _ => n1 - (intOf i).toNat)
          case atStart => exact ⟨0, Nat.zero_le _, rfl, rfl, by simpa using hown, hsz, hbel⟩
          case round =>
            clear hown hsz hbel
            obtain ⟨t, ht, rfl, rfl, hown, hsz, hbel⟩ := hrel
            have e1 : wr.cell? ⟨b, off + j, none⟩ = some (.slice a1 n1 c1) := (hbel.cell (p := ⟨b, off + j, none⟩) hbl).trans g1
            by_cases hlt2 : t < n1
            · obtain ⟨b2, off2, rfl, hbl2, g3⟩ := g2.at (by omega)
              have e2 : wr.cell? ⟨b2, off2 + t, none⟩ = some (.string ((bs.getD j []).getD t ByteArray.empty)) := (hbel.cell (p := ⟨b2, off2 + t, none⟩) hbl2).trans (g3 t hlt2)
              have htb : t < (bs.getD j []).length := by rw [g2.len]; exact hlt2
              have HT := hide (take_snoc ByteArray.empty (bs.getD j []) t htb)
              clear g3 g1 htb
              generalize hx : (bs.getD j []).getD t ByteArray.empty = x at e2 HT
              clear hx
              go_wp2_with (at_builtin; refine wpList_append_fits _ rfl (.tmp 38) (.tmp 46) 22 rfl w.heap.size 9 i0 1 Try.underlying22 hi hz1 w.heap.size (z + t) m _ rfl (hown.alloc _) ⟨wr.heap.size, 0, none⟩ 1 1 [.string x] rfl rfl (by intro t u ht; match t, ht with | 0, ht => simp at ht; subst ht; simp [Addr.add]) (by intro u hu; simp at hu; subst hu; rfl) (by omega) ?_; intro w1 hown1 hgrow1)
              go_roundw
              case rel =>
                refine ⟨t + 1, by omega, by go_num, rfl, ?_, ?_, ?_⟩
                · rw [HT.out, ← List.append_assoc, List.map_append]
                  exact hown1
                · have := hgrow1.size; simp at this; omega
                · exact (hbel.alloc (by omega) _).grown hgrow1 (by simp; omega) (fun k hk => by cases hk; exact Nat.le_refl _)
              case measure => simp [intOf]; omega
            · obtain rfl : t = n1 := by omega
              go_wp2
              go_roundw
              case rel =>
                refine ⟨j + 1, z + t, by omega, by go_num, rfl, ?_, ?_, hsz, hbel⟩
                · show z + t = _
                  rw [flat_snoc bs j hjb, List.length_append, g2.len, HZ.out]
                · rw [flat_snoc bs j hjb]
                  rwa [List.take_of_length_le (l := bs.getD j []) (by rw [g2.len]; exact Nat.le_refl _)] at hown
              case measure => simp [intOf]; omega
        · obtain rfl : j = k := by omega
          obtain rfl : z = m := by rw [HZ.out, List.take_of_length_le (by rw [HL.out]; exact Nat.le_refl _), HN.out]
          go_wp2
          go_ret
          exact ⟨_, rfl, by rwa [List.take_of_length_le (by rw [HL.out]; exact Nat.le_refl _)] at hown, hbel⟩

end Go.Proofs.Qxb6605445a
