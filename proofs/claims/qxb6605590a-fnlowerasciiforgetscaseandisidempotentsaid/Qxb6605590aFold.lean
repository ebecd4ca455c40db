/-
  zzSqlFoldByte, zzSqlRaise.
-/
import Derived.Test.Qxb6605590aLow
namespace Go.Proofs.Qxb6605590a
open Go.RowKit
set_option linter.unusedVariables false
set_option linter.unusedSimpArgs false

/-- The capital alphabet, letter by letter. -/
theorem up_at : ∀ (k : Nat) (h : k < 26), (({ data := #[65, 66, 67, 68, 69, 70, 71, 72, 73, 74, 75, 76, 77, 78, 79, 80, 81, 82, 83, 84, 85, 86, 87, 88, 89, 90] } : ByteArray)[k]'h).toNat = 65 + k
  | 0, _ => rfl
  | 1, _ => rfl
  | 2, _ => rfl
  | 3, _ => rfl
  | 4, _ => rfl
  | 5, _ => rfl
  | 6, _ => rfl
  | 7, _ => rfl
  | 8, _ => rfl
  | 9, _ => rfl
  | 10, _ => rfl
  | 11, _ => rfl
  | 12, _ => rfl
  | 13, _ => rfl
  | 14, _ => rfl
  | 15, _ => rfl
  | 16, _ => rfl
  | 17, _ => rfl
  | 18, _ => rfl
  | 19, _ => rfl
  | 20, _ => rfl
  | 21, _ => rfl
  | 22, _ => rfl
  | 23, _ => rfl
  | 24, _ => rfl
  | 25, _ => rfl
  | n + 26, h => absurd h (by omega)
/-- The small alphabet, letter by letter. -/
theorem lo_at : ∀ (k : Nat) (h : k < 26), (({ data := #[97, 98, 99, 100, 101, 102, 103, 104, 105, 106, 107, 108, 109, 110, 111, 112, 113, 114, 115, 116, 117, 118, 119, 120, 121, 122] } : ByteArray)[k]'h).toNat = 97 + k
  | 0, _ => rfl
  | 1, _ => rfl
  | 2, _ => rfl
  | 3, _ => rfl
  | 4, _ => rfl
  | 5, _ => rfl
  | 6, _ => rfl
  | 7, _ => rfl
  | 8, _ => rfl
  | 9, _ => rfl
  | 10, _ => rfl
  | 11, _ => rfl
  | 12, _ => rfl
  | 13, _ => rfl
  | 14, _ => rfl
  | 15, _ => rfl
  | 16, _ => rfl
  | 17, _ => rfl
  | 18, _ => rfl
  | 19, _ => rfl
  | 20, _ => rfl
  | 21, _ => rfl
  | 22, _ => rfl
  | 23, _ => rfl
  | 24, _ => rfl
  | 25, _ => rfl
  | n + 26, h => absurd h (by omega)

theorem ret_u8 {a b : Int} (h : a = b) : Ending.returned (.int .u8 a) = .returned (.int .u8 b) := by rw [h]

theorem fold_w (c : UInt8) (w : World) : Calls Try.prog 20 #[.int .u8 c.toNat] w fun e w' => e = .returned (.int .u8 (low c).toNat) ∧ w' = w := by
  have hc : c.toNat < 256 := UInt8.toNat_lt _
  go_enter Try.func20, Try.ntmps20
  go_wp2
  go_loop [3] (fun i => ∃ k : Nat, k ≤ 26 ∧ i = .int .i64 k ∧ (c.toNat < 65 ∨ 65 + k ≤ c.toNat)) (fun i => 26 - (intOf i).toNat)
  case atStart => exact ⟨0, Nat.zero_le _, rfl, by omega⟩
  case round =>
    obtain ⟨k, hk, rfl, hck⟩ := hrel
    by_cases hlt : k < 26
    · have hU := up_at k hlt
      have hL := lo_at k hlt
      by_cases he : c.toNat = 65 + k
      · have hb : ((c.toNat : Int) == 65 + (k : Int)) = true := by rw [beq_iff_eq]; omega
        have HE := hide he
        clear he hck
        go_wp2
        go_ret
        refine ⟨ret_u8 ?_, rfl⟩
        have h1 := HE.out
        have h2 := low_in (c := c) (by omega) (by omega)
        omega
      · have hb : ((c.toNat : Int) == 65 + (k : Int)) = false := by rw [beq_eq_false_iff_ne]; omega
        go_wp2
        go_round
        case rel => exact ⟨k + 1, by omega, by go_num, by omega⟩
        case measure => simp [intOf]; omega
    · have HL : Hid (low c = c) := low_out (by omega)
      go_wp2
      go_ret
      exact ⟨ret_u8 (by rw [HL.out]), rfl⟩

/-- One byte, raised. -/
def rai (c : UInt8) : UInt8 := if 97 ≤ c.toNat ∧ c.toNat ≤ 122 then c - 32 else c
/-- A string, raised. -/
def raiS (s : ByteArray) : ByteArray := ⟨(s.data.toList.map rai).toArray⟩

theorem rai_out {c : UInt8} (h : c.toNat < 97 ∨ 122 < c.toNat) : rai c = c := by
  unfold rai
  rw [if_neg (by omega)]
theorem rai_in {c : UInt8} (h1 : 97 ≤ c.toNat) (h2 : c.toNat ≤ 122) : (rai c).toNat = c.toNat - 32 := by
  unfold rai
  rw [if_pos ⟨h1, h2⟩, UInt8.toNat_sub_of_le]
  · rfl
  · rw [UInt8.le_iff_toNat_le]; show 32 ≤ c.toNat; omega

theorem info5 : (Try.prog.info? 5).map (fun i => (i.zero, i.size, i.bytes)) = some (some (.int .u8 0), 1, 1) := by kernel_rfl

/-- What lies in the row that 'make' made, when the first j bytes have been written. -/
structure Mid2 (w wr : World) (s : ByteArray) (j : Nat) : Prop where
  cell : ∀ t, t < s.size → wr.cell? ⟨w.heap.size, t, none⟩ = some (.int .u8 (if t < j then (rai (at0 s t)).toNat else 0 : Nat))
  frozen : ∀ t, t < s.size → wr.frozen? ⟨w.heap.size, t, none⟩ = false
  below : Below w.heap.size w wr

theorem mid2_start {w w0 : World} {s : ByteArray} (h : w0.ownsRow w.heap.size 5 1 (.slice (some ⟨w.heap.size, 0, none⟩) s.size s.size) s.size (List.replicate s.size (.int .u8 0))) (hg : w.grownBy w0 none) : Mid2 w w0 s 0 := by
  refine ⟨fun t ht => ?_, fun t ht => h.frozenAt t, (Below.refl _ _).grown hg (Nat.le_refl _) (fun k h => by cases h)⟩
  rw [h.cellAt t (by omega)]
  simp [List.getElem?_replicate, ht]
theorem Mid2.store {w wr : World} {s : ByteArray} {j : Nat} (h : Mid2 w wr s j) (hj : j < s.size) (v : Int) (hv : v = (rai (at0 s j)).toNat) : Mid2 w (wr.setCell ⟨w.heap.size, j, none⟩ (.int .u8 v)) s (j + 1) := by
  refine ⟨fun t ht => ?_, fun t ht => ?_, h.below.setCell (p := ⟨w.heap.size, j, none⟩) (Nat.le_refl _) _⟩
  · by_cases h1 : t = j
    · subst h1
      rw [World.cell?_setCell_same _ _ _ (h.cell t ht), if_pos (Nat.lt_succ_self _), hv]
    · rw [World.cell?_setCell_other _ _ _ _ (fun e => h1 (by cases e; rfl)), h.cell t ht]
      by_cases h2 : t < j
      · rw [if_pos h2, if_pos (by omega)]
      · rw [if_neg h2, if_neg (by omega)]
  · rw [World.frozen?_setCell]; exact h.frozen t ht
theorem Mid2.done {w wr : World} {s : ByteArray} (h : Mid2 w wr s s.size) (cap : Nat) : (convert 35 9 (.slice (some ⟨w.heap.size, 0, none⟩) s.size cap)).run Try.prog wr = .ok (.string (raiS s)) wr := by
  have h1 := run_convert_bytes_arg (P := Try.prog) wr 35 5 Try.underlying35 Try.underlying5 w.heap.size 0 s.size cap (s.data.toList.map fun c => ((rai c).toNat : Int)) (by simp) (fun i hi => by
    rw [Nat.zero_add, h.cell i hi, if_pos hi]
    have h' : i < s.data.toList.length := by simpa using hi
    simp [at0, List.getD, List.getElem?_eq_getElem h']) 9 Try.underlying9
  rw [h1]
  congr 2
  unfold strOfNums raiS
  congr 2
  rw [List.map_map]
  refine List.map_congr_left fun c _ => ?_
  simp

set_option maxHeartbeats 1000000 in
theorem raise_w (s : ByteArray) (w : World) (hs : s.size ≤ 1048576) : Calls Try.prog 22 #[.string s] w fun e w' => e = .returned (.string (raiS s)) ∧ Below w.heap.size w w' := by
  obtain ⟨i0, hi, hz0, hz1, hz2⟩ := info_parts info5
  go_enter Try.func22, Try.ntmps22
  go_wp2_with (at_make; refine wpList_make_full _ rfl _ _ 35 rfl w.heap.size 5 i0 (.int .u8 0) 1 Try.underlying35 hi hz0 hz1 _ _ _ _ s.size rfl rfl (by omega) (by omega) ?b2 ?b3 (Nat.le_refl _) ?_)
  case b2 => (try rw [hz2]); omega
  case b3 => unfold maxLen; omega
  intro w0 hown0 hgrow0
  rw [toList_madeCells_one] at hown0
  have HM := hide (mid2_start hown0 hgrow0)
  clear hown0 hgrow0 hi hz0 hz1 hz2
  go_wp2
  go_loopw [4] (fun i wr => ∃ j : Nat, j ≤ s.size ∧ i = .int .i64 j ∧ Hid (Mid2 w wr s j)) (fun i _ => s.size - (intOf i).toNat)
  case atStart => exact ⟨0, Nat.zero_le _, rfl, HM⟩
  case round =>
    clear HM
    obtain ⟨j, hj, rfl, HM⟩ := hrel
    by_cases hlt : j < s.size
    · have e1 := HM.out.cell j hlt
      have e2 := HM.out.frozen j hlt
      rw [if_neg (Nat.lt_irrefl _)] at e1
      have HA := hide (at0_eq s j hlt)
      generalize hc : s[j] = c
      have HC : Hid (at0 s j = c) := by show _ = _; rw [HA.out, hc]
      have hcb : c.toNat < 256 := UInt8.toNat_lt _
      go_wp2
      clear hc
      go_loop [5, 6] (fun sc i => ∃ k : Nat, k ≤ 26 ∧ i = .int .i64 k ∧ sc = .int .u8 c.toNat ∧ (c.toNat < 97 ∨ 97 + k ≤ c.toNat)) (fun _ i => 26 - (intOf i).toNat)
      case atStart => exact ⟨0, Nat.zero_le _, rfl, rfl, by omega⟩
      case round =>
        obtain ⟨k, hk, rfl, rfl, hck⟩ := hrel
        by_cases hlt2 : k < 26
        · have hU := up_at k hlt2
          have hL := lo_at k hlt2
          by_cases he : c.toNat = 97 + k
          · have hb : ((c.toNat : Int) == 97 + (k : Int)) = true := by rw [beq_iff_eq]; omega
            have HE := hide he
            clear he hck
            go_wp2
            go_roundw
            case rel =>
              refine ⟨j + 1, by omega, by go_num, HM.out.store hlt _ ?_⟩
              have h1 := HE.out
              rw [HC.out, rai_in (by omega) (by omega)]
              omega
            case measure => simp [intOf]; omega
          · have hb : ((c.toNat : Int) == 97 + (k : Int)) = false := by rw [beq_eq_false_iff_ne]; omega
            go_wp2
            go_round
            case rel => exact ⟨k + 1, by omega, by go_num, rfl, by omega⟩
            case measure => simp [intOf]; omega
        · have HL : Hid (rai c = c) := rai_out (by omega)
          go_wp2
          go_roundw
          case rel => exact ⟨j + 1, by omega, by go_num, HM.out.store hlt _ (by rw [HC.out, HL.out])⟩
          case measure => simp [intOf]; omega
    · obtain rfl : j = s.size := by omega
      have hconv2 := HM.out.done s.size
      go_wp2
      go_ret
      exact ⟨rfl, HM.out.below⟩

end Go.Proofs.Qxb6605590a
