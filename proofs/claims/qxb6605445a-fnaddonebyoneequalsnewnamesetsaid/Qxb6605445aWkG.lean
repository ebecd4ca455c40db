/-
  The library's searches on the roads: cmp.Less, slices.BinarySearch at []string, strings.Compare, the closure of 'block', slices.BinarySearchFunc, (*nameSet).block.
-/
import Derived.Test.Qxb6605445aWkE
import Derived.Lib.Bytealg
namespace Go.Proofs.Qxb6605445a
open Go.RowKit
set_option linter.unusedVariables false
set_option linter.unusedSimpArgs false

theorem isNaN60_w (x : ByteArray) (w : World) : Calls Try.prog 60 #[.string x] w fun e w' => e = .returned (.bool false) ∧ w' = w := by
  go_enter Try.func60, Try.ntmps60
  go_wp2
  go_ret
  exact ⟨by simp, rfl⟩
theorem isNaN43_w (x : ByteArray) (w : World) : Calls Try.prog 43 #[.string x] w fun e w' => e = .returned (.bool false) ∧ w' = w := by
  go_enter Try.func43, Try.ntmps43
  go_wp2
  go_ret
  exact ⟨by simp, rfl⟩
theorem less_w (x y : ByteArray) (w : World) : Calls Try.prog 42 #[.string x, .string y] w fun e w' => e = .returned (.bool (Op.bytesLess x.toList y.toList)) ∧ w' = w := by
  go_enter Try.func42, Try.ntmps42
  go_wp2_with (go_at_call 60; refine (isNaN60_w _ _).mono ?_; rintro e w' ⟨rfl, rfl⟩)
  go_ret
  exact ⟨rfl, rfl⟩

/-- Of n places the first p meet q, the others do not. -/
structure Cut (n : Nat) (q : Nat → Prop) (p : Nat) : Prop where
  le : p ≤ n
  yes : ∀ i, i < p → q i
  no : ∀ i, p ≤ i → i < n → ¬ q i

/-- The search's two results: the place p, and whether x stands there. -/
def Found (n : Nat) (ss : List ByteArray) (x : ByteArray) (e : Ending) : Prop :=
  ∃ (p : Nat) (f : Bool), e = .returned (.tuple #[.int .i64 p, .bool f]) ∧ (f = true ↔ p < n ∧ ss.getD p ByteArray.empty = x) ∧ Cut n (fun i => ltB (ss.getD i ByteArray.empty) x) p
theorem Found.yes {n : Nat} {ss : List ByteArray} {x : ByteArray} {p : Nat} (hp : p < n) (hx : ss.getD p ByteArray.empty = x) (hc : Cut n (fun i => ltB (ss.getD i ByteArray.empty) x) p) : Found n ss x (.returned (.tuple #[.int .i64 p, .bool true])) :=
  ⟨p, true, rfl, by simp only [true_iff]; exact ⟨hp, hx⟩, hc⟩
theorem Found.no {n : Nat} {ss : List ByteArray} {x : ByteArray} {p : Nat} (hx : p < n → ss.getD p ByteArray.empty ≠ x) (hc : Cut n (fun i => ltB (ss.getD i ByteArray.empty) x) p) : Found n ss x (.returned (.tuple #[.int .i64 p, .bool false])) :=
  ⟨p, false, rfl, by simp only [Bool.false_eq_true, false_iff]; exact fun h => hx h.1 h.2, hc⟩

set_option maxHeartbeats 1000000 in
theorem search_w (a : Option Addr) (n c : Nat) (ss : List ByteArray) (x : ByteArray) (w : World) (h : Strs w a n c ss) (hn : n ≤ 1048576)
    (hmono : ∀ i j, i ≤ j → j < n → ltB (ss.getD j ByteArray.empty) x → ltB (ss.getD i ByteArray.empty) x) :
    Calls Try.prog 31 #[.slice a n c, .string x] w fun e w' => Found n ss x e ∧ w' = w := by
  have HM := hide hmono
  clear hmono
  go_enter Try.func31, Try.ntmps31
  go_wp2
  go_loop [7, 8] (fun s7 s8 => ∃ lo hi : Nat, s7 = .int .i64 lo ∧ s8 = .int .i64 hi ∧ lo ≤ hi ∧ hi ≤ n ∧ Hid ((∀ i, i < lo → ltB (ss.getD i ByteArray.empty) x) ∧ (∀ i, hi ≤ i → i < n → ¬ ltB (ss.getD i ByteArray.empty) x))) (fun s7 s8 => (intOf s8 - intOf s7).toNat)
  case atStart => exact ⟨0, n, rfl, rfl, Nat.zero_le _, Nat.le_refl _, ⟨fun i hi => absurd hi (Nat.not_lt_zero _), fun i h1 h2 => by omega⟩⟩
  case round =>
    obtain ⟨lo, hi, rfl, rfl, hlh, hin, HI⟩ := hrel
    by_cases hlt : lo < hi
    · obtain ⟨b, off, rfl, hbl, g⟩ := h.at (by omega)
      have cm := g ((lo + hi) / 2) (by omega)
      clear g
      generalize hy : ss.getD ((lo + hi) / 2) ByteArray.empty = y at cm
      have HY := hide hy
      clear hy
      cases hyx : Op.bytesLess y.toList x.toList with
      | true =>
        go_wp2_with (go_at_call 42; refine (less_w _ _ _).mono ?_; rintro e w' ⟨rfl, rfl⟩)
        go_round
        case rel =>
          exact ⟨(lo + hi) / 2 + 1, hi, by rw [show ((lo : Int) + (hi : Int)) / 2 + 1 = (((lo + hi) / 2 + 1 : Nat) : Int) by omega], rfl, by omega, hin, ⟨fun i h1 => HM.out i ((lo + hi) / 2) (by omega) (by omega) (by rw [HY.out]; exact hyx), HI.out.2⟩⟩
        case measure => simp [intOf]; omega
      | false =>
        go_wp2_with (go_at_call 42; refine (less_w _ _ _).mono ?_; rintro e w' ⟨rfl, rfl⟩)
        go_round
        case rel =>
          exact ⟨lo, (lo + hi) / 2, rfl, by rw [show ((lo : Int) + (hi : Int)) / 2 = (((lo + hi) / 2 : Nat) : Int) by omega], by omega, by omega, ⟨HI.out.1, fun i h1 h2 h3 => by have := HM.out ((lo + hi) / 2) i h1 h2 h3; rw [HY.out, ltB, hyx] at this; cases this⟩⟩
        case measure => simp [intOf]; omega
    · obtain rfl : hi = lo := by omega
      have HC : Hid (Cut n (fun i => ltB (ss.getD i ByteArray.empty) x) hi) := ⟨hin, HI.out.1, HI.out.2⟩
      clear HI HM
      by_cases hn2 : hi < n
      · obtain ⟨b, off, rfl, hbl, g⟩ := h.at (by omega)
        have cl := g hi hn2
        clear g
        generalize hy : ss.getD hi ByteArray.empty = y at cl
        have HY := hide hy
        clear hy
        by_cases hyx : y = x
        · go_wp2_with (go_at_call 43; refine (isNaN43_w _ _).mono ?_; rintro e w' ⟨rfl, rfl⟩)
          go_ret2
          exact ⟨Found.yes hn2 (HY.out.trans hyx) HC.out, rfl⟩
        · have hne : (y.toList == x.toList) = false := by rw [beq_toList]; simp [hyx]
          go_wp2_with (go_at_call 43; refine (isNaN43_w _ _).mono ?_; rintro e w' ⟨rfl, rfl⟩)
          all_goals
            (go_ret2
             exact ⟨Found.no (fun _ => by rw [HY.out]; exact hyx) HC.out, rfl⟩)
      · go_wp2_with (go_at_call 43; refine (isNaN43_w _ _).mono ?_; rintro e w' ⟨rfl, rfl⟩)
        go_ret2
        exact ⟨Found.no (fun h => absurd h hn2) HC.out, rfl⟩

/-- strings.Compare's answer. -/
def cmpS (x y : ByteArray) : Int := Lib.compareBytes x.data.toList y.data.toList

theorem compareBytes_lt : ∀ (x y : List UInt8), Lib.compareBytes x y < 0 ↔ Op.bytesLess x y = true
  | [], [] => by simp [Lib.compareBytes, Op.bytesLess]
  | [], _ :: _ => by simp [Lib.compareBytes, Op.bytesLess]
  | _ :: _, [] => by simp [Lib.compareBytes, Op.bytesLess]
  | a :: x, b :: y => by
    have ih := compareBytes_lt x y
    rw [Lib.compareBytes, Op.bytesLess]
    by_cases h1 : a < b
    · simp [h1]
    · by_cases h2 : b < a
      · have : a ≠ b := fun e => by subst e; exact UInt8.lt_irrefl _ h2
        simp [h1, h2, this]
      · have : a = b := UInt8.le_antisymm (UInt8.not_lt.1 h2) (UInt8.not_lt.1 h1)
        simp [this, UInt8.lt_irrefl, ih]
theorem cmpS_lt (x y : ByteArray) : cmpS x y < 0 ↔ ltB x y := by
  unfold cmpS ltB
  rw [Lib.toList_data, Lib.toList_data]
  exact compareBytes_lt _ _

theorem compare59_w (x y : ByteArray) (w : World) : Calls Try.prog 59 #[.string x, .string y] w fun e w' => e = .returned (.int .i64 (cmpS x y)) ∧ w' = w := by
  go_enter Try.func59, Try.ntmps59
  go_wp2
  rw [run_callFunc_extern Try.func69 (by kernel_rfl) (by kernel_rfl) (by kernel_rfl) (e := Extern.BytealgCompare.compare) (by kernel_rfl), Lib.run_compareString]
  simp only [Result.andThen]
  rw [Oper.upon_value]
  go_wp2
  go_ret
  exact ⟨rfl, rfl⟩
theorem compare_w (x y : ByteArray) (w : World) : Calls Try.prog 41 #[.string x, .string y] w fun e w' => e = .returned (.int .i64 (cmpS x y)) ∧ w' = w := by
  go_enter Try.func41, Try.ntmps41
  go_wp2_with (go_at_call 59; refine (compare59_w _ _ _).mono ?_; rintro e w' ⟨rfl, rfl⟩)
  go_ret
  exact ⟨rfl, rfl⟩

def lastOf (ss : List ByteArray) : ByteArray := ss.getD (ss.length - 1) ByteArray.empty

theorem blockCmp_w (a : Option Addr) (n c : Nat) (ss : List ByteArray) (x : ByteArray) (w : World) (h : Strs w a n c ss) (hn : 0 < n) :
    Calls Try.prog 40 #[.slice a n c, .string x] w fun e w' => e = .returned (.int .i64 (cmpS (lastOf ss) x)) ∧ w' = w := by
  obtain ⟨b, off, rfl, hbl, g⟩ := h.at hn
  have hc := h.cap
  have hle := h.le
  unfold maxLen at hc
  have e1 := g (n - 1) (by omega)
  have e2 : lastOf ss = ss.getD (n - 1) ByteArray.empty := by rw [lastOf, h.len]
  rw [← e2] at e1
  clear g e2
  obtain ⟨m, rfl⟩ : ∃ m, n = m + 1 := ⟨n - 1, by omega⟩
  generalize lastOf ss = y at *
  rw [Nat.add_sub_cancel] at e1
  go_enter Try.func40, Try.ntmps40
  go_wp2_with (go_at_call 41; refine (compare_w _ _ _).mono ?_; rintro e w' ⟨rfl, rfl⟩)
  go_ret
  exact ⟨rfl, rfl⟩

/-- The block's number: of n blocks the first p end in a name that sorts before x. -/
def Found2 (n : Nat) (bs : List (List ByteArray)) (x : ByteArray) (e : Ending) : Prop :=
  ∃ (p : Nat) (f : Bool), e = .returned (.tuple #[.int .i64 p, .bool f]) ∧ Cut n (fun i => ltB (lastOf (bs.getD i [])) x) p
theorem Found2.mk {n : Nat} {bs : List (List ByteArray)} {x : ByteArray} {p : Nat} {f : Bool} (hc : Cut n (fun i => ltB (lastOf (bs.getD i [])) x) p) : Found2 n bs x (.returned (.tuple #[.int .i64 p, .bool f])) := ⟨p, f, rfl, hc⟩

set_option maxHeartbeats 1000000 in
theorem searchFunc_w (a : Option Addr) (n c : Nat) (bs : List (List ByteArray)) (x : ByteArray) (w : World) (h : Blks w a n c bs) (hn : n ≤ 1048576) (hne : ∀ b ∈ bs, 0 < b.length)
    (hmono : ∀ i j, i ≤ j → j < n → ltB (lastOf (bs.getD j [])) x → ltB (lastOf (bs.getD i [])) x) :
    Calls Try.prog 39 #[.slice a n c, .string x, .func (.func 40) #[] #[]] w fun e w' => Found2 n bs x e ∧ w' = w := by
  have HM := hide hmono
  have HN := hide hne
  have HL := hide h.len
  clear hmono hne
  go_enter Try.func39, Try.ntmps39
  go_wp2
  go_loop [9, 10] (fun s7 s8 => ∃ lo hi : Nat, s7 = .int .i64 lo ∧ s8 = .int .i64 hi ∧ lo ≤ hi ∧ hi ≤ n ∧ Hid ((∀ i, i < lo → ltB (lastOf (bs.getD i [])) x) ∧ (∀ i, hi ≤ i → i < n → ¬ ltB (lastOf (bs.getD i [])) x))) (fun s7 s8 => (intOf s8 - intOf s7).toNat)
  case atStart => exact ⟨0, n, rfl, rfl, Nat.zero_le _, Nat.le_refl _, ⟨fun i hi => absurd hi (Nat.not_lt_zero _), fun i h1 h2 => by omega⟩⟩
  case round =>
    obtain ⟨lo, hi, rfl, rfl, hlh, hin, HI⟩ := hrel
    by_cases hlt : lo < hi
    · obtain ⟨b, off, rfl, hbl, g⟩ := h.at (by omega)
      obtain ⟨a1, n1, c1, cm, g2⟩ := g ((lo + hi) / 2) (by omega)
      clear g
      have hn1 : 0 < n1 := by rw [← g2.len]; exact HN.out _ (by have : (lo + hi) / 2 < bs.length := by rw [HL.out]; omega
                                                                simp [List.getD, this])
      generalize hy : lastOf (bs.getD ((lo + hi) / 2) []) = y
      have HY := hide hy
      have hcmp := fun w (h : Strs w a1 n1 c1 (bs.getD ((lo + hi) / 2) [])) => blockCmp_w a1 n1 c1 _ x w h hn1
      rw [hy] at hcmp
      clear hy
      by_cases hyx : cmpS y x < 0
      · go_wp2_with (go_at_call 40; refine (hcmp _ g2).mono ?_; rintro e w' ⟨rfl, rfl⟩)
        go_round
        case rel =>
          exact ⟨(lo + hi) / 2 + 1, hi, by rw [show ((lo : Int) + (hi : Int)) / 2 + 1 = (((lo + hi) / 2 + 1 : Nat) : Int) by omega], rfl, by omega, hin, ⟨fun i h1 => HM.out i ((lo + hi) / 2) (by omega) (by omega) (by rw [HY.out]; exact (cmpS_lt _ _).1 hyx), HI.out.2⟩⟩
        case measure => simp [intOf]; omega
      · go_wp2_with (go_at_call 40; refine (hcmp _ g2).mono ?_; rintro e w' ⟨rfl, rfl⟩)
        go_round
        case rel =>
          exact ⟨lo, (lo + hi) / 2, rfl, by rw [show ((lo : Int) + (hi : Int)) / 2 = (((lo + hi) / 2 : Nat) : Int) by omega], by omega, by omega, ⟨HI.out.1, fun i h1 h2 h3 => by have h4 := HM.out ((lo + hi) / 2) i h1 h2 h3; rw [HY.out, ← cmpS_lt] at h4; omega⟩⟩
        case measure => simp [intOf]; omega
    · obtain rfl : hi = lo := by omega
      have HC : Hid (Cut n (fun i => ltB (lastOf (bs.getD i [])) x) hi) := ⟨hin, HI.out.1, HI.out.2⟩
      clear HI HM
      by_cases hn2 : hi < n
      · obtain ⟨b, off, rfl, hbl, g⟩ := h.at (by omega)
        obtain ⟨a1, n1, c1, cm, g2⟩ := g hi hn2
        clear g
        have hn1 : 0 < n1 := by rw [← g2.len]; exact HN.out _ (by have : hi < bs.length := by rw [HL.out]; omega
                                                                  simp [List.getD, this])
        generalize hy : lastOf (bs.getD hi []) = y
        have hcmp := fun w (h : Strs w a1 n1 c1 (bs.getD hi [])) => blockCmp_w a1 n1 c1 _ x w h hn1
        rw [hy] at hcmp
        clear hy
        go_wp2_with (go_at_call 40; refine (hcmp _ g2).mono ?_; rintro e w' ⟨rfl, rfl⟩)
        go_ret2
        exact ⟨Found2.mk HC.out, rfl⟩
      · go_wp2
        go_ret2
        exact ⟨Found2.mk HC.out, rfl⟩

/-- The block's number, one result. -/
def Found1 (n : Nat) (bs : List (List ByteArray)) (x : ByteArray) (e : Ending) : Prop :=
  ∃ (p : Nat), e = .returned (.int .i64 p) ∧ Cut n (fun i => ltB (lastOf (bs.getD i [])) x) p

theorem block_w (a : Option Addr) (n c : Nat) (bs : List (List ByteArray)) (x : ByteArray) (b : Nat) (w : World) (hb : w.cell? ⟨b, 0, none⟩ = some (.slice a n c)) (h : Blks w a n c bs) (hn : n ≤ 1048576) (hne : ∀ b ∈ bs, 0 < b.length)
    (hmono : ∀ i j, i ≤ j → j < n → ltB (lastOf (bs.getD j [])) x → ltB (lastOf (bs.getD i [])) x) :
    Calls Try.prog 30 #[.pointer (some ⟨b, 0, none⟩), .string x] w fun e w' => Found1 n bs x e ∧ w' = w := by
  have H := hide (And.intro hne hmono)
  clear hne hmono
  go_enter Try.func30, Try.ntmps30
  go_wp2_with (go_at_call 39; refine (searchFunc_w a n c bs x _ h hn H.out.1 H.out.2).mono ?_; rintro e w' ⟨⟨p, f, rfl, hc⟩, rfl⟩; have HC := hide hc; clear hc)
  go_ret
  exact ⟨⟨p, rfl, HC.out⟩, rfl⟩

end Go.Proofs.Qxb6605445a
