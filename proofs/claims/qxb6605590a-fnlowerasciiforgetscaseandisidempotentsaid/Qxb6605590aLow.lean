/-
  sql.LowerASCII: the walk, and what it computes.
-/
import Derived.Test.Qxb6605590aProg
import Derived.WalkKit
import Derived.WalkLawsBesides
import Derived.WalkSpells
import Derived.Below
import Derived.Lib.ConvBytes
import Derived.Lib.Strings
import Derived.Laws.BytesArg
import Derived.BigQuiet
import Derived.Deep.QuietTactic
namespace Go.Proofs.Qxb6605590a
open Go.RowKit
set_option linter.unusedVariables false
set_option linter.unusedSimpArgs false

theorem hide {p : Prop} (h : p) : Hid p := h

/-- One byte, folded. -/
def low (c : UInt8) : UInt8 := if 65 ≤ c.toNat ∧ c.toNat ≤ 90 then c + 32 else c
/-- A string, folded. -/
def lowS (s : ByteArray) : ByteArray := ⟨(s.data.toList.map low).toArray⟩

/-- Byte t of s, as the walk writes it. -/
def at0 (s : ByteArray) (t : Nat) : UInt8 := s.data.toList.getD t 0

theorem at0_eq (s : ByteArray) (t : Nat) (h : t < s.size) : at0 s t = s[t] := by
  unfold at0
  have h' : t < s.data.toList.length := by simpa using h
  simp [List.getD, List.getElem?_eq_getElem h']
  rfl

theorem lowS_size (s : ByteArray) : (lowS s).size = s.size := by
  show (s.data.toList.map low).toArray.size = s.data.size
  simp
theorem lowS_at (s : ByteArray) (t : Nat) (h : t < s.size) : at0 (lowS s) t = low (at0 s t) := by
  unfold at0 lowS
  have h' : t < s.data.toList.length := by simpa using h
  simp [List.getD, List.getElem?_eq_getElem h']
theorem at0_ext {a b : ByteArray} (hs : a.size = b.size) (h : ∀ t, t < a.size → at0 a t = at0 b t) : a = b := by
  cases a with
  | mk ad => cases b with
    | mk bd =>
      congr 1
      apply Array.ext (by simpa [ByteArray.size] using hs)
      intro i h1 h2
      have := h i (by simpa [ByteArray.size] using h1)
      simpa [at0, List.getD, h1, h2] using this
theorem lowS_same (s : ByteArray) (h : ∀ t, t < s.size → low (at0 s t) = at0 s t) : lowS s = s :=
  at0_ext (lowS_size s) fun t ht => by rw [lowS_size] at ht; rw [lowS_at s t ht, h t ht]

theorem low_out {c : UInt8} (h : c.toNat < 65 ∨ 90 < c.toNat) : low c = c := by
  unfold low
  rw [if_neg (by omega)]
theorem low_in {c : UInt8} (h1 : 65 ≤ c.toNat) (h2 : c.toNat ≤ 90) : (low c).toNat = c.toNat + 32 := by
  unfold low
  rw [if_pos ⟨h1, h2⟩, UInt8.toNat_add]
  simp
  omega

/-- What lies in the row that '[]byte(s)' made, when the first j bytes have been folded. -/
structure Mid (w wr : World) (s : ByteArray) (j : Nat) : Prop where
  cell : ∀ t, t < s.size → wr.cell? ⟨w.heap.size, t, none⟩ = some (.int .u8 (if t < j then low (at0 s t) else at0 s t).toNat)
  frozen : ∀ t, t < s.size → wr.frozen? ⟨w.heap.size, t, none⟩ = false
  below : Below w.heap.size w wr

theorem mid_start (w : World) (s : ByteArray) (k : Nat) (h : ∀ t, t < k → low (at0 s t) = at0 s t) : Mid w (Lib.bytesWorld w 5 s) s k := by
  refine ⟨fun t ht => ?_, fun t ht => ?_, ?_⟩
  · rw [Lib.bytesWorld_cell w 5 s t ht]
    by_cases hk : t < k
    · rw [if_pos hk, h t hk]; rfl
    · rw [if_neg hk]; rfl
  · have hsz : t < (Lib.bytesCells w 5 s).size := by simp [Lib.bytesCells]; omega
    simp [World.frozen?, Lib.bytesWorld_at_new]
    omega
  · exact ⟨rfl, rfl, rfl, by rw [Lib.bytesWorld_size]; omega, fun k hk => Lib.bytesWorld_at_old w 5 s k hk⟩

theorem Mid.skip {w wr : World} {s : ByteArray} {j : Nat} (h : Mid w wr s j) (hj : low (at0 s j) = at0 s j) : Mid w wr s (j + 1) := by
  refine ⟨fun t ht => ?_, h.frozen, h.below⟩
  rw [h.cell t ht]
  by_cases h1 : t < j
  · rw [if_pos h1, if_pos (by omega)]
  · rw [if_neg h1]
    by_cases h2 : t = j
    · subst h2; rw [if_pos (by omega), hj]
    · rw [if_neg (by omega)]
theorem Mid.store {w wr : World} {s : ByteArray} {j : Nat} (h : Mid w wr s j) (hj : j < s.size) (v : Int) (hv : v = (low (at0 s j)).toNat) : Mid w (wr.setCell ⟨w.heap.size, j, none⟩ (.int .u8 v)) s (j + 1) := by
  refine ⟨fun t ht => ?_, fun t ht => ?_, h.below.setCell (p := ⟨w.heap.size, j, none⟩) (Nat.le_refl _) _⟩
  · by_cases h1 : t = j
    · subst h1
      rw [World.cell?_setCell_same _ _ _ (h.cell t ht), if_pos (Nat.lt_succ_self _), hv]
    · rw [World.cell?_setCell_other _ _ _ _ (fun e => h1 (by cases e; rfl)), h.cell t ht]
      by_cases h2 : t < j
      · rw [if_pos h2, if_pos (by omega)]
      · rw [if_neg h2, if_neg (by omega)]
  · rw [World.frozen?_setCell]; exact h.frozen t ht

/-- 'string(b)' at the end. -/
theorem Mid.done {w wr : World} {s : ByteArray} (h : Mid w wr s s.size) (cap : Nat) : (convert 35 9 (.slice (some ⟨w.heap.size, 0, none⟩) s.size cap)).run Try.prog wr = .ok (.string (lowS s)) wr := by
  have h1 := run_convert_bytes_arg (P := Try.prog) wr 35 5 Try.underlying35 Try.underlying5 w.heap.size 0 s.size cap (s.data.toList.map fun c => ((low c).toNat : Int)) (by simp) (fun i hi => by
    rw [Nat.zero_add, h.cell i hi, if_pos hi]
    have h' : i < s.data.toList.length := by simpa using hi
    simp [at0, List.getD, List.getElem?_eq_getElem h']) 9 Try.underlying9
  rw [h1]
  congr 2
  unfold strOfNums lowS
  congr 2
  rw [List.map_map]
  refine List.map_congr_left fun c _ => ?_
  simp

set_option maxHeartbeats 1000000 in
theorem lower_w (s : ByteArray) (w : World) (hs : s.size ≤ 1048576) : Calls Try.prog 19 #[.string s] w fun e w' => e = .returned (.string (lowS s)) ∧ Below w.heap.size w w' := by
  go_enter Try.func19, Try.ntmps19
  go_wp2
  go_loop [3] (fun i => ∃ k : Nat, k ≤ s.size ∧ i = .int .i64 k ∧ Hid (∀ t, t < k → low (at0 s t) = at0 s t)) (fun i => s.size - (intOf i).toNat)
  case atStart => exact ⟨0, Nat.zero_le _, rfl, fun t ht => absurd ht (Nat.not_lt_zero _)⟩
  case round =>
    obtain ⟨k, hk, rfl, HK⟩ := hrel
    by_cases hlt : k < s.size
    · have ha := at0_eq s k hlt
      have HA := hide ha
      clear ha
      by_cases h1 : s[k].toNat < 65 ∨ 90 < s[k].toNat
      · have HL : Hid (low (at0 s k) = at0 s k) := low_out (by rw [HA.out]; exact h1)
        have hrel' : Hid (∀ t, t < k + 1 → low (at0 s t) = at0 s t) := fun t ht => by
          by_cases h2 : t = k
          · subst h2; exact HL.out
          · exact HK.out t (by omega)
        clear HK HL
        rcases h1 with h1 | h1
        · go_wp2
          go_round
          case rel => exact ⟨k + 1, by omega, by go_num, hrel'⟩
          case measure => simp [intOf]; omega
        · go_wp2
          go_round
          case rel => exact ⟨k + 1, by omega, by go_num, hrel'⟩
          case measure => simp [intOf]; omega
      · have h2 : 65 ≤ s[k].toNat := by omega
        have h3 : s[k].toNat ≤ 90 := by omega
        have hne : ((k : Int) == (s.size : Int)) = false := by rw [beq_eq_false_iff_ne]; omega
        have hconv := Lib.run_convert_string_bytes (P := Try.prog) w 9 35 5 s Try.underlying9 Try.underlying35 Try.underlying5
        have HM := hide (mid_start w s k HK.out)
        generalize Lib.bytesWorld w 5 s = W0 at hconv HM
        generalize grownCap w s.size 0 5 = cap at hconv
        clear h1
        go_wp2
        clear hconv
        go_loopw [3] (fun i wr => ∃ j : Nat, j ≤ s.size ∧ i = .int .i64 j ∧ Hid (Mid w wr s j)) (fun i _ => s.size - (intOf i).toNat)
        case atStart => exact ⟨k, hk, rfl, HM⟩
        case round =>
          clear HM
          obtain ⟨j, hj, rfl, HM⟩ := hrel
          by_cases hlt2 : j < s.size
          · have e1 := HM.out.cell j hlt2
            have e2 := HM.out.frozen j hlt2
            rw [if_neg (Nat.lt_irrefl _)] at e1
            have hb : (at0 s j).toNat < 256 := UInt8.toNat_lt _
            by_cases h4 : (at0 s j).toNat < 65 ∨ 90 < (at0 s j).toNat
            · have HL : Hid (low (at0 s j) = at0 s j) := low_out h4
              generalize hc : at0 s j = c at e1 h4 hb
              clear hc
              rcases h4 with h4 | h4
              · go_wp2
                go_roundw
                case rel => exact ⟨j + 1, by omega, by go_num, HM.out.skip HL.out⟩
                case measure => simp [intOf]; omega
              · go_wp2
                go_roundw
                case rel => exact ⟨j + 1, by omega, by go_num, HM.out.skip HL.out⟩
                case measure => simp [intOf]; omega
            · have h5 : 65 ≤ (at0 s j).toNat := by omega
              have h6 : (at0 s j).toNat ≤ 90 := by omega
              have HL := hide (low_in h5 h6)
              generalize hc : at0 s j = c at e1 h5 h6 hb
              have HC := hide hc
              clear hc h4
              go_wp2
              go_roundw
              case rel => exact ⟨j + 1, by omega, by go_num, HM.out.store hlt2 _ (by rw [HL.out, HC.out]; simp)⟩
              case measure => simp [intOf]; omega
          · obtain rfl : j = s.size := by omega
            have hconv2 := HM.out.done cap
            go_wp2
            go_ret
            exact ⟨rfl, HM.out.below⟩
    · obtain rfl : k = s.size := by omega
      have HS := hide (lowS_same s HK.out)
      go_wp2
      go_ret
      exact ⟨by rw [HS.out]; rfl, Below.refl _ _⟩

end Go.Proofs.Qxb6605590a
