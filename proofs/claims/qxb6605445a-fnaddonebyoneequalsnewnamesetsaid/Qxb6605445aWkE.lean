/-
  The readers: zzIsSet, zzBlocksSmall, zzBytes_...
-/
import Derived.Test.Qxb6605445aWkD
namespace Go.Proofs.Qxb6605445a
open Go.RowKit
set_option linter.unusedVariables false
set_option linter.unusedSimpArgs false

/-- x sorts before y, in the model's own order of strings. -/
def ltB (x y : ByteArray) : Prop := Op.bytesLess x.toList y.toList = true

/-- Every block holds 1..limit names, and all names, block after block, strictly increase. -/
def IsSet (bs : List (List ByteArray)) (limit : Nat) : Prop := (∀ b ∈ bs, 0 < b.length ∧ b.length ≤ limit) ∧ bs.flatten.Pairwise ltB

/-- The first k blocks, and of block k the first t names. -/
def upto (bs : List (List ByteArray)) (k t : Nat) : List ByteArray := (bs.take k).flatten ++ (bs.getD k []).take t

theorem upto_zero (bs : List (List ByteArray)) (k : Nat) : upto bs k 0 = (bs.take k).flatten := by simp [upto]
theorem upto_full (bs : List (List ByteArray)) (k t : Nat) (hk : k < bs.length) (ht : (bs.getD k []).length = t) : upto bs k t = upto bs (k + 1) 0 := by
  rw [upto_zero, flat_snoc bs k hk, upto, List.take_of_length_le (l := bs.getD k []) (by omega)]
theorem upto_succ (bs : List (List ByteArray)) (k t : Nat) (ht : t < (bs.getD k []).length) : upto bs k (t + 1) = upto bs k t ++ [(bs.getD k []).getD t ByteArray.empty] := by
  rw [upto, take_snoc ByteArray.empty _ t ht, ← List.append_assoc]; rfl
theorem upto_end (bs : List (List ByteArray)) (k : Nat) (hk : bs.length = k) : upto bs k 0 = bs.flatten := by
  rw [upto_zero, List.take_of_length_le (by omega)]
theorem upto_prefix (bs : List (List ByteArray)) (k t : Nat) : upto bs k t <+: bs.flatten := by
  have h : bs.flatten = (bs.take k).flatten ++ (bs.drop k).flatten := by rw [← List.flatten_append, List.take_append_drop]
  rw [h, upto]
  refine (List.prefix_append_right_inj _).2 ?_
  by_cases hk : k < bs.length
  · rw [List.drop_eq_getElem_cons hk, List.flatten_cons]
    refine List.IsPrefix.trans (List.take_prefix _ _) ?_
    simp [List.getD, hk]
  · simp [List.getD, hk]

theorem pairwise_snoc (l : List ByteArray) (x : ByteArray) (htr : ∀ a b c, ltB a b → ltB b c → ltB a c) : (l ++ [x]).Pairwise ltB ↔ l.Pairwise ltB ∧ ∀ p, l.getLast? = some p → ltB p x := by
  rw [List.pairwise_append]
  constructor
  · rintro ⟨h1, _, h2⟩
    exact ⟨h1, fun p hp => h2 p (List.mem_of_getLast? hp) x (by simp)⟩
  · rintro ⟨h1, h2⟩
    refine ⟨h1, List.pairwise_singleton _ _, fun a ha b hb => ?_⟩
    simp at hb
    subst hb
    cases hl : l.getLast? with
    | none => simp at hl; subst hl; cases ha
    | some p =>
      obtain ⟨l', rfl⟩ := List.getLast?_eq_some_iff.1 hl
      rcases List.mem_append.1 ha with h | h
      · exact htr a p b ((List.pairwise_append.1 h1).2.2 a h p (by simp)) (h2 p hl)
      · simp at h; subst h; exact h2 _ hl

/-- The model's '<' on strings is the order of the bytes' lists. -/
theorem bytesLess_lt : ∀ (x y : List UInt8), Op.bytesLess x y = true ↔ x < y
  | [], [] => by simp [Op.bytesLess]
  | _ :: _, [] => by simp [Op.bytesLess]
  | [], _ :: _ => by simp [Op.bytesLess]
  | a :: x, b :: y => by
    have ih := bytesLess_lt x y
    rw [Op.bytesLess, List.cons_lt_cons_iff]
    by_cases h1 : a < b <;> by_cases h2 : a = b <;> simp [h1, h2, ih]

theorem ltB_iff (x y : ByteArray) : ltB x y ↔ x.toList < y.toList := by
  exact bytesLess_lt _ _
theorem ltB_trans (a b c : ByteArray) (h : ltB a b) (k : ltB b c) : ltB a c := by
  rw [ltB_iff] at *
  exact List.lt_trans h k
theorem ltB_irrefl (a : ByteArray) : ¬ ltB a a := by
  rw [ltB_iff]
  exact List.lt_irrefl _
theorem ltB_total (a b : ByteArray) (h : ¬ ltB a b) (k : ¬ ltB b a) : a = b := by
  rw [ltB_iff] at *
  exact toList_inj (List.le_antisymm (List.not_lt.1 k) (List.not_lt.1 h))

/-- What zzIsSet knows when it has read the first k blocks and t names of block k: all went well; the last name read. -/
structure SoFar (bs : List (List ByteArray)) (limit k t : Nat) (hv : Bool) (pv : ByteArray) : Prop where
  blocks : ∀ b ∈ bs.take k, 0 < b.length ∧ b.length ≤ limit
  inc : (upto bs k t).Pairwise ltB
  last : (upto bs k t).getLast? = if hv then some pv else none

theorem SoFar.start (bs : List (List ByteArray)) (limit : Nat) (pv : ByteArray) : SoFar bs limit 0 0 false pv := ⟨by simp, by simp [upto], by simp [upto]⟩
theorem SoFar.step {bs : List (List ByteArray)} {limit k t : Nat} {hv : Bool} {pv x : ByteArray} (h : SoFar bs limit k t hv pv) (ht : t < (bs.getD k []).length) (hx : (bs.getD k []).getD t ByteArray.empty = x) (hlt : hv = true → ltB pv x) :
    SoFar bs limit k (t + 1) true x := by
  refine ⟨h.blocks, ?_, ?_⟩
  · rw [upto_succ bs k t ht, hx, pairwise_snoc _ _ ltB_trans]
    refine ⟨h.inc, fun p hp => ?_⟩
    rw [h.last] at hp
    cases hv
    · simp at hp
    · simp at hp; subst hp; exact hlt rfl
  · rw [upto_succ bs k t ht, hx]; simp
theorem SoFar.next {bs : List (List ByteArray)} {limit k t : Nat} {hv : Bool} {pv : ByteArray} (h : SoFar bs limit k t hv pv) (hk : k < bs.length) (ht : (bs.getD k []).length = t) (h1 : 0 < t) (h2 : t ≤ limit) : SoFar bs limit (k + 1) 0 hv pv := by
  refine ⟨?_, ?_, ?_⟩
  · rw [take_snoc [] bs k hk]
    intro b hb
    rcases List.mem_append.1 hb with hb | hb
    · exact h.blocks b hb
    · simp only [List.mem_singleton] at hb; subst hb; omega
  · rw [← upto_full bs k t hk ht]; exact h.inc
  · rw [← upto_full bs k t hk ht]; exact h.last
theorem SoFar.done {bs : List (List ByteArray)} {limit k : Nat} {hv : Bool} {pv : ByteArray} (h : SoFar bs limit k 0 hv pv) (hk : bs.length = k) : IsSet bs limit := by
  refine ⟨?_, ?_⟩
  · have := h.blocks; rwa [List.take_of_length_le (by omega)] at this
  · have := h.inc; rwa [upto_end bs k hk] at this
theorem SoFar.bad_len {bs : List (List ByteArray)} {limit k n : Nat} (hk : k < bs.length) (hn : (bs.getD k []).length = n) (h : n = 0 ∨ limit < n) : ¬ IsSet bs limit := by
  intro hs
  have := hs.1 (bs.getD k []) (by simp [List.getD, hk])
  omega
theorem SoFar.bad_inc {bs : List (List ByteArray)} {limit k t : Nat} {pv x : ByteArray} (h : SoFar bs limit k t true pv) (ht : t < (bs.getD k []).length) (hx : (bs.getD k []).getD t ByteArray.empty = x) (hn : ¬ ltB pv x) : ¬ IsSet bs limit := by
  intro hs
  have h1 : (upto bs k (t + 1)).Pairwise ltB := hs.2.sublist (upto_prefix bs k (t + 1)).sublist
  rw [upto_succ bs k t ht, hx, pairwise_snoc _ _ ltB_trans] at h1
  exact hn (h1.2 pv (by rw [h.last]; rfl))

set_option maxHeartbeats 1000000 in
theorem isSet_w (a : Option Addr) (n c : Nat) (bs : List (List ByteArray)) (L : Int) (w : World) (h : Blks w a n c bs) (hL : 0 ≤ L) :
    Calls Try.prog 15 #[.slice a n c, .int .i64 L] w fun e w' => RetIs e (IsSet bs L.toNat) ∧ w' = w := by
  have HL := hide h.len
  have hc := h.cap
  have hle := h.le
  unfold maxLen at hc
  go_enter Try.func15, Try.ntmps15
  go_wp2
  go_loop [5, 6, 7] (fun s5 s6 i => ∃ (k : Nat) (hv : Bool) (pv : ByteArray), k ≤ n ∧ i = .int .i64 k ∧ s5 = .bool hv ∧ s6 = .string pv ∧ SoFar bs L.toNat k 0 hv pv) (fun _ _ i => n - (intOf i).toNat)
  case atStart => exact ⟨0, false, _, Nat.zero_le _, rfl, rfl, rfl, SoFar.start _ _ _⟩
  case round =>
    obtain ⟨k, hv, pv, hk, rfl, rfl, rfl, S⟩ := hrel
    by_cases hlt : k < n
    · obtain ⟨b, off, rfl, hbl, g⟩ := h.at (by omega)
      obtain ⟨a1, n1, c1, g1, g2⟩ := g k hlt
      have hkb : k < bs.length := by rw [HL.out]; exact hlt
      have hc1 := g2.cap
      have hl1 := g2.le
      unfold maxLen at hc1
      clear g
      by_cases hz : n1 = 0
      · have hz' : ((n1 : Int) == 0) = true := by rw [beq_iff_eq]; omega
        have HB := hide (SoFar.bad_len (limit := L.toNat) hkb g2.len (.inl hz))
        clear hz
        go_wp2
        go_ret
        exact ⟨RetIs.no HB.out, rfl⟩
      by_cases hg : L < n1
      · have hz' : ((n1 : Int) == 0) = false := by rw [beq_eq_false_iff_ne]; omega
        have HB := hide (SoFar.bad_len (limit := L.toNat) hkb g2.len (.inr (by omega)))
        go_wp2
        go_ret
        exact ⟨RetIs.no HB.out, rfl⟩
      have hz' : ((n1 : Int) == 0) = false := by rw [beq_eq_false_iff_ne]; omega
      go_wp2
      go_loop [5, 6, 9] (fun s5 s6 i => ∃ (t : Nat) (hv : Bool) (pv : ByteArray), t ≤ n1 ∧ i = .int .i64 t ∧ s5 = .bool hv ∧ s6 = .string pv ∧ SoFar bs L.toNat k t hv pv) (fun _ _ i => n1 - (intOf i).toNat)
      case atStart => exact ⟨0, hv, pv, Nat.zero_le _, rfl, rfl, rfl, S⟩
      case round =>
        clear S
        obtain ⟨t, hv, pv, ht, rfl, rfl, rfl, S⟩ := hrel
        by_cases hlt2 : t < n1
        · obtain ⟨b2, off2, rfl, hbl2, g3⟩ := g2.at (by omega)
          have e2 := g3 t hlt2
          have htb : t < (bs.getD k []).length := by rw [g2.len]; exact hlt2
          clear g3
          generalize hx : (bs.getD k []).getD t ByteArray.empty = x at e2
          have HX := hide hx
          clear hx
          cases hv with
          | false =>
            go_wp2
            go_round
            case rel => exact ⟨t + 1, true, x, by omega, by go_num, rfl, rfl, S.step htb HX.out (by simp)⟩
            case measure => simp [intOf]; omega
          | true =>
            cases hpx : Op.bytesLess pv.toList x.toList with
            | true =>
              go_wp2
              go_round
              case rel => exact ⟨t + 1, true, x, by omega, by go_num, rfl, rfl, S.step htb HX.out (fun _ => hpx)⟩
              case measure => simp [intOf]; omega
            | false =>
              have HB := hide (S.bad_inc htb HX.out (by simp [ltB, hpx]))
              go_wp2
              go_ret
              exact ⟨RetIs.no HB.out, rfl⟩
        · obtain rfl : t = n1 := by omega
          go_wp2
          go_round
          case rel => exact ⟨k + 1, hv, pv, by omega, by go_num, rfl, rfl, S.next hkb g2.len (by omega) (by omega)⟩
          case measure => simp [intOf]; omega
    · have HB := hide (S.done (by rw [HL.out]; omega))
      go_wp2
      go_ret
      exact ⟨RetIs.yes HB.out, rfl⟩

end Go.Proofs.Qxb6605445a
