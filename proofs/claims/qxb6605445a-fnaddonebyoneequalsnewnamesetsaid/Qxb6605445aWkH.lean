/-
  (nameRun).settle.
-/
import Derived.Test.Qxb6605445aWkG
namespace Go.Proofs.Qxb6605445a
open Go.RowKit
set_option linter.unusedVariables false
set_option linter.unusedSimpArgs false

set_option maxHeartbeats 1000000 in
theorem settleA_no (a1 : Option Addr) (n1 c1 : Nat) (a2 : Option Addr) (n2 c2 : Nat) (p : ByteArray) (fs : List ByteArray) (w : World) (h1 : Strs w a1 n1 c1 fs) (hn : 0 < n1) (x : ByteArray) (hx : fs.getD 0 ByteArray.empty = x) (hq : hp x p = true) :
    Calls Try.prog 36 #[.agg #[.slice a1 n1 c1, .slice a2 n2 c2, .string p]] w fun e w' => e = .returned (.agg #[.slice a1 n1 c1, .slice a2 n2 c2, .string p]) ∧ Below w.heap.size w w' := by
  obtain ⟨b, off, rfl, hbl, g⟩ := h1.at hn
  have e1 := g 0 hn
  rw [hx] at e1
  rw [Nat.add_zero] at e1
  clear g h1 hx
  have h0 : ((n1 : Int) == 0) = false := by rw [beq_eq_false_iff_ne]; omega
  have h2 : decide ((0 : Int) < (n1 : Int)) = true := decide_eq_true (by omega)
  go_enter Try.func36, Try.ntmps36
  go_wp2
  go_quiet ((go_at_call 48; exact Calls.quiet_of_same (stringsHasPrefix_w _ _ _)))
  go_wp2
  refine bodyPost_ret (v := .agg #[.slice (some ⟨b, off, none⟩) n1 c1, .slice a2 n2 c2, .string p]) (by simp [results, Try.results36, go_sem]) rfl ⟨rfl, ?_⟩
  repeat (first | exact Below.refl _ _ | refine Below.setCell ?_ (by simp) _ | refine below_drewN ?_ _ | refine Below.drew ?_ | refine Below.alloc ?_ (by simp) _)

set_option maxHeartbeats 1000000 in
theorem settleA_nil (a1 : Option Addr) (n1 c1 : Nat) (a2 : Option Addr) (n2 c2 : Nat) (p : ByteArray) (fs : List ByteArray) (w : World) (h1 : Strs w a1 n1 c1 fs) (hn : 0 < n1) (x : ByteArray) (hx : fs.getD 0 ByteArray.empty = x) (hq : hp x p = false) :
    Calls Try.prog 36 #[.agg #[.slice a1 n1 c1, .slice a2 n2 c2, .string p]] w fun e w' => e = .returned (.agg #[.slice none 0 0, .slice none 0 0, .string p]) ∧ Below w.heap.size w w' := by
  obtain ⟨b, off, rfl, hbl, g⟩ := h1.at hn
  have e1 := g 0 hn
  rw [hx] at e1
  rw [Nat.add_zero] at e1
  clear g h1 hx
  have h0 : ((n1 : Int) == 0) = false := by rw [beq_eq_false_iff_ne]; omega
  have h2 : decide ((0 : Int) < (n1 : Int)) = true := decide_eq_true (by omega)
  go_enter Try.func36, Try.ntmps36
  go_wp2
  go_quiet ((go_at_call 48; exact Calls.quiet_of_same (stringsHasPrefix_w _ _ _)))
  go_wp2
  refine bodyPost_ret (v := .agg #[.slice none 0 0, .slice none 0 0, .string p]) (by simp [results, Try.results36, go_sem]) rfl ⟨rfl, ?_⟩
  repeat (first | exact Below.refl _ _ | refine Below.setCell ?_ (by simp) _ | refine below_drewN ?_ _ | refine Below.drew ?_ | refine Below.alloc ?_ (by simp) _)

set_option maxHeartbeats 1000000 in
theorem settleC (a1 : Option Addr) (c1 : Nat) (a2 : Option Addr) (c2 : Nat) (p : ByteArray) (w : World) :
    Calls Try.prog 36 #[.agg #[.slice a1 0 c1, .slice a2 0 c2, .string p]] w fun e w' => e = .returned (.agg #[.slice a1 0 c1, .slice a2 0 c2, .string p]) ∧ Below w.heap.size w w' := by
  go_enter Try.func36, Try.ntmps36
  go_wp2
  go_quiet (fail)
  go_wp2
  refine bodyPost_ret (v := .agg #[.slice a1 0 c1, .slice a2 0 c2, .string p]) (by simp [results, Try.results36, go_sem]) rfl ⟨rfl, ?_⟩
  repeat (first | exact Below.refl _ _ | refine Below.setCell ?_ (by simp) _ | refine below_drewN ?_ _ | refine Below.drew ?_ | refine Below.alloc ?_ (by simp) _)

/-- 'x[l:]' of a slice: its address. -/
def cutAddr (a : Option Addr) (c l : Nat) : Option Addr := if c = l then a else a.map (·.add l)

theorem Strs.drop {w : World} {a : Option Addr} {n c : Nat} {ss : List ByteArray} (h : Strs w a n c ss) (l : Nat) (hl : l ≤ n) : Strs w (cutAddr a c l) (n - l) (c - l) (ss.drop l) := by
  refine ⟨by simp [h.len], by have := h.le; omega, by have := h.cap; omega, ?_⟩
  by_cases h0 : n - l = 0
  · exact .inl h0
  · obtain ⟨b, off, rfl, hb, g⟩ := h.at (by omega)
    refine .inr ⟨b, off + l, ?_, hb, fun i hi => ?_⟩
    · have := h.le
      rw [cutAddr, if_neg (by omega)]
      by_cases h1 : l = 0 <;> simp [Addr.add, h1]
    · rw [Nat.add_assoc, g (l + i) (by omega)]
      simp [List.getD, List.getElem?_drop]

theorem Blks.drop {w : World} {a : Option Addr} {n c : Nat} {bs : List (List ByteArray)} (h : Blks w a n c bs) (l : Nat) (hl : l ≤ n) : Blks w (cutAddr a c l) (n - l) (c - l) (bs.drop l) := by
  refine ⟨by simp [h.len], by have := h.le; omega, by have := h.cap; omega, ?_⟩
  by_cases h0 : n - l = 0
  · exact .inl h0
  · obtain ⟨b, off, rfl, hb, g⟩ := h.at (by omega)
    refine .inr ⟨b, off + l, ?_, hb, fun i hi => ?_⟩
    · have := h.le
      rw [cutAddr, if_neg (by omega)]
      by_cases h1 : l = 0 <;> simp [Addr.add, h1]
    · obtain ⟨a', n', c', h1, h2⟩ := g (l + i) (by omega)
      refine ⟨a', n', c', by rw [Nat.add_assoc]; exact h1, ?_⟩
      simpa [List.getD, List.getElem?_drop] using h2

theorem cut_one (b off c : Nat) : (if c = 1 then some (⟨b, off, none⟩ : Addr) else some ⟨b, off + 1, none⟩) = cutAddr (some ⟨b, off, none⟩) c 1 := by
  unfold cutAddr
  split <;> simp [Addr.add]

set_option maxHeartbeats 1000000 in
theorem settleB_no (a1 : Option Addr) (c1 : Nat) (a2 : Option Addr) (n2 c2 : Nat) (p : ByteArray) (rs : List (List ByteArray)) (w0 w : World) (hw0 : Below w0.heap.size w0 w) (h2 : Blks w0 a2 n2 c2 rs) (hn : 0 < n2) (hne : 0 < (rs.getD 0 []).length) (x : ByteArray) (hx : (rs.getD 0 []).getD 0 ByteArray.empty = x) (hq : hp x p = true) :
    Calls Try.prog 36 #[.agg #[.slice a1 0 c1, .slice a2 n2 c2, .string p]] w fun e w' => (∃ a3 n3 c3, e = .returned (.agg #[.slice a3 n3 c3, .slice (cutAddr a2 c2 1) (n2 - 1) (c2 - 1), .string p]) ∧ Strs w0 a3 n3 c3 (rs.getD 0 [])) ∧ Below w.heap.size w w' := by
  obtain ⟨b, off, rfl, hbl, g⟩ := h2.at hn
  obtain ⟨a3, n3, c3, e1, g2⟩ := g 0 hn
  have G := hide g2
  rw [g2.len] at hne
  have hc2 := h2.cap
  have hl2 := h2.le
  unfold maxLen at hc2
  rw [Nat.add_zero] at e1
  replace e1 : w.cell? ⟨b, off, none⟩ = some (.slice a3 n3 c3) := (hw0.cell (p := ⟨b, off, none⟩) hbl).trans e1
  obtain ⟨b3, off3, rfl, hbl3, g3⟩ := g2.at hne
  have e2 := g3 0 hne
  rw [hx, Nat.add_zero] at e2
  replace e2 : w.cell? ⟨b3, off3, none⟩ = some (.string x) := (hw0.cell (p := ⟨b3, off3, none⟩) hbl3).trans e2
  replace hbl : b < w.heap.size := Nat.lt_of_lt_of_le hbl hw0.size
  replace hbl3 : b3 < w.heap.size := Nat.lt_of_lt_of_le hbl3 hw0.size
  clear g g2 g3 h2 hx hw0
  have h0 : ((n3 : Int) == 0) = false := by rw [beq_eq_false_iff_ne]; omega
  have h3 : decide ((0 : Int) < (n3 : Int)) = true := decide_eq_true (by omega)
  have h4 : decide ((0 : Int) < (n2 : Int)) = true := decide_eq_true (by omega)
  have hcut := cut_one b off c2
  generalize cutAddr (some ⟨b, off, none⟩) c2 1 = ad at *
  go_enter Try.func36, Try.ntmps36
  go_wp2
  go_region
  clear hcut
  go_wp2
  go_quiet ((go_at_call 48; exact (stringsHasPrefix_w _ _ _).mono fun _ _ hh => ⟨hh.1, _, hh.2⟩))
  go_wp2
  refine bodyPost_ret (v := .agg #[.slice (some ⟨b3, off3, none⟩) n3 c3, .slice ad (n2 - 1) (c2 - 1), .string p]) (by simp [results, Try.results36, go_sem]) rfl ⟨⟨_, _, _, rfl, G.out⟩, ?_⟩
  repeat (first | exact Below.refl _ _ | refine Below.setCell ?_ (by simp) _ | refine below_drewN ?_ _ | refine Below.drew ?_ | refine Below.alloc ?_ (by simp) _)

set_option maxHeartbeats 1000000 in
theorem settleB_nil (a1 : Option Addr) (c1 : Nat) (a2 : Option Addr) (n2 c2 : Nat) (p : ByteArray) (rs : List (List ByteArray)) (w : World) (h2 : Blks w a2 n2 c2 rs) (hn : 0 < n2) (hne : 0 < (rs.getD 0 []).length) (x : ByteArray) (hx : (rs.getD 0 []).getD 0 ByteArray.empty = x) (hq : hp x p = false) :
    Calls Try.prog 36 #[.agg #[.slice a1 0 c1, .slice a2 n2 c2, .string p]] w fun e w' => e = .returned (.agg #[.slice none 0 0, .slice none 0 0, .string p]) ∧ Below w.heap.size w w' := by
  obtain ⟨b, off, rfl, hbl, g⟩ := h2.at hn
  obtain ⟨a3, n3, c3, e1, g2⟩ := g 0 hn
  rw [g2.len] at hne
  have hc2 := h2.cap
  have hl2 := h2.le
  unfold maxLen at hc2
  rw [Nat.add_zero] at e1
  obtain ⟨b3, off3, rfl, hbl3, g3⟩ := g2.at hne
  have e2 := g3 0 hne
  rw [hx, Nat.add_zero] at e2
  clear g g2 g3 h2 hx
  have h0 : ((n3 : Int) == 0) = false := by rw [beq_eq_false_iff_ne]; omega
  have h3 : decide ((0 : Int) < (n3 : Int)) = true := decide_eq_true (by omega)
  have h4 : decide ((0 : Int) < (n2 : Int)) = true := decide_eq_true (by omega)
  have hcut := cut_one b off c2
  generalize cutAddr (some ⟨b, off, none⟩) c2 1 = ad at *
  go_enter Try.func36, Try.ntmps36
  go_wp2
  go_region
  clear hcut
  go_wp2
  go_quiet ((go_at_call 48; exact (stringsHasPrefix_w _ _ _).mono fun _ _ hh => ⟨hh.1, _, hh.2⟩))
  go_wp2
  refine bodyPost_ret (v := .agg #[.slice none 0 0, .slice none 0 0, .string p]) (by simp [results, Try.results36, go_sem]) rfl ⟨rfl, ?_⟩
  repeat (first | exact Below.refl _ _ | refine Below.setCell ?_ (by simp) _ | refine below_drewN ?_ _ | refine Below.drew ?_ | refine Below.alloc ?_ (by simp) _)

/-- What 'settle' makes of a run. -/
def stepF (fs : List ByteArray) (rs : List (List ByteArray)) : List ByteArray × List (List ByteArray) :=
  if fs.length = 0 ∧ 0 < rs.length then (rs.getD 0 [], rs.drop 1) else (fs, rs)
def keepF (p : ByteArray) (q : List ByteArray × List (List ByteArray)) : List ByteArray × List (List ByteArray) :=
  if 0 < q.1.length ∧ hp (q.1.getD 0 ByteArray.empty) p = false then ([], []) else q
def settleF (fs : List ByteArray) (rs : List (List ByteArray)) (p : ByteArray) : List ByteArray × List (List ByteArray) := keepF p (stepF fs rs)

theorem settle_w (a1 : Option Addr) (n1 c1 : Nat) (a2 : Option Addr) (n2 c2 : Nat) (p : ByteArray) (fs : List ByteArray) (rs : List (List ByteArray)) (w0 w : World) (hw0 : Below w0.heap.size w0 w) (h1 : Strs w0 a1 n1 c1 fs) (h2 : Blks w0 a2 n2 c2 rs) (hne : ∀ b ∈ rs, 0 < b.length) :
    Calls Try.prog 36 #[.agg #[.slice a1 n1 c1, .slice a2 n2 c2, .string p]] w fun e w' =>
      (∃ a3 n3 c3 a4 n4 c4, e = .returned (.agg #[.slice a3 n3 c3, .slice a4 n4 c4, .string p]) ∧ Strs w0 a3 n3 c3 (settleF fs rs p).1 ∧ Blks w0 a4 n4 c4 (settleF fs rs p).2) ∧ Below w.heap.size w w' := by
  by_cases hn1 : 0 < n1
  · have es : stepF fs rs = (fs, rs) := by rw [stepF, if_neg]; rw [h1.len]; omega
    cases hq : hp (fs.getD 0 ByteArray.empty) p with
    | true =>
      have e : settleF fs rs p = (fs, rs) := by rw [settleF, es, keepF, if_neg]; simp only [hq]; simp
      rw [e]
      exact (settleA_no a1 n1 c1 a2 n2 c2 p fs w (h1.below hw0 (Nat.le_refl _)) hn1 _ rfl hq).mono fun _ _ ⟨he, hb⟩ => ⟨⟨_, _, _, _, _, _, he, h1, h2⟩, hb⟩
    | false =>
      have e : settleF fs rs p = ([], []) := by rw [settleF, es, keepF, if_pos]; exact ⟨by rw [h1.len]; exact hn1, hq⟩
      rw [e]
      exact (settleA_nil a1 n1 c1 a2 n2 c2 p fs w (h1.below hw0 (Nat.le_refl _)) hn1 _ rfl hq).mono fun _ _ ⟨he, hb⟩ => ⟨⟨_, _, _, _, _, _, he, Strs.nil _, Blks.nil _⟩, hb⟩
  · obtain rfl : n1 = 0 := by omega
    by_cases hn2 : 0 < n2
    · have hrl : 0 < rs.length := by rw [h2.len]; exact hn2
      have es : stepF fs rs = (rs.getD 0 [], rs.drop 1) := by rw [stepF, if_pos]; exact ⟨h1.len, hrl⟩
      have hr : 0 < (rs.getD 0 []).length := hne _ (by simp [List.getD, hrl])
      cases hq : hp ((rs.getD 0 []).getD 0 ByteArray.empty) p with
      | true =>
        have e : settleF fs rs p = (rs.getD 0 [], rs.drop 1) := by rw [settleF, es, keepF, if_neg]; simp only [hq]; simp
        rw [e]
        exact (settleB_no a1 c1 a2 n2 c2 p rs w0 w hw0 h2 hn2 hr _ rfl hq).mono fun _ _ ⟨⟨a3, n3, c3, he, hs⟩, hb⟩ => ⟨⟨_, _, _, _, _, _, he, hs, h2.drop 1 hn2⟩, hb⟩
      | false =>
        have e : settleF fs rs p = ([], []) := by rw [settleF, es, keepF, if_pos]; exact ⟨hr, hq⟩
        rw [e]
        exact (settleB_nil a1 c1 a2 n2 c2 p rs w (h2.below hw0 (Nat.le_refl _)) hn2 hr _ rfl hq).mono fun _ _ ⟨he, hb⟩ => ⟨⟨_, _, _, _, _, _, he, Strs.nil _, Blks.nil _⟩, hb⟩
    · obtain rfl : n2 = 0 := by omega
      have e : settleF fs rs p = (fs, rs) := by
        have es : stepF fs rs = (fs, rs) := by rw [stepF, if_neg]; rw [h2.len]; omega
        rw [settleF, es, keepF, if_neg]
        rw [h1.len]; omega
      rw [e]
      exact (settleC a1 c1 a2 c2 p w).mono fun _ _ ⟨he, hb⟩ => ⟨⟨_, _, _, _, _, _, he, h1, h2⟩, hb⟩

end Go.Proofs.Qxb6605445a
