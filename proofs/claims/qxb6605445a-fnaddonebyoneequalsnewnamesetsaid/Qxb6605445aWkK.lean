/-
  zzYield.
-/
import Derived.Test.Qxb6605445aWkI
namespace Go.Proofs.Qxb6605445a
open Go.RowKit
set_option linter.unusedVariables false
set_option linter.unusedSimpArgs false

/-- y without its lead p. -/
def strip (p y : ByteArray) : ByteArray := y.extract p.size y.size
/-- What a run over the names l yields. -/
def yieldF (p : ByteArray) (l : List ByteArray) : List ByteArray := (l.takeWhile fun y => hp y p).map (strip p)

theorem yield_cons_yes (p y : ByteArray) (l : List ByteArray) (h : hp y p = true) : yieldF p (y :: l) = strip p y :: yieldF p l := by simp [yieldF, h]
theorem yield_cons_no (p y : ByteArray) (l : List ByteArray) (h : hp y p = false) : yieldF p (y :: l) = [] := by simp [yieldF, h]
theorem hp_le {y p : ByteArray} (h : hp y p = true) : p.size ≤ y.size := by
  unfold hp at h
  exact (of_decide_eq_true h).1

/-- A row of the call's own is a slice value. -/
theorem own_form {w : World} {base : Nat} {e size : Nat} {v : Value} {n : Nat} {xs : List Value} (h : w.ownsRow base e size v n xs) : ∃ a c, v = .slice a n c := by
  rcases h.2 with ⟨rfl, rfl⟩ | ⟨g, cap, cur, rfl, _⟩
  · exact ⟨_, _, rfl⟩
  · exact ⟨_, _, rfl⟩

theorem drop_flat_cons {α : Type} (rs : List (List α)) (k : Nat) (h : k < rs.length) : (rs.drop k).flatten = rs.getD k [] ++ (rs.drop (k + 1)).flatten := by
  rw [List.drop_eq_getElem_cons h, List.flatten_cons]
  simp [List.getD, h]

set_option maxHeartbeats 1000000 in
theorem yield_w (a1 : Option Addr) (n1 c1 : Nat) (fs : List ByteArray) (a2 : Option Addr) (n2 c2 : Nat) (rs : List (List ByteArray)) (p : ByteArray) (w : World) (h1 : Strs w a1 n1 c1 fs) (h2 : Blks w a2 n2 c2 rs) (hn : 0 < n1) (hn2 : n2 ≤ 1048576)
    (hN : (fs ++ rs.flatten).length ≤ 1048576) :
    Calls Try.prog 25 #[.slice a1 n1 c1, .slice a2 n2 c2, .string p] w fun e w' => (∃ a c n, e = .returned (.slice a n c) ∧ Strs w' a n c (yieldF p (fs ++ rs.flatten))) ∧ Below w.heap.size w w' := by
  obtain ⟨i0, hi, hz0, hz1, hz2⟩ := info_parts info9
  have hn0 : ((n1 : Int) == 0) = false := by rw [beq_eq_false_iff_ne]; omega
  generalize hY : fs ++ rs.flatten = Y at *
  have HY := hide hY
  clear hY
  go_enter Try.func25, Try.ntmps25
  go_wp2
  go_loopg [7, 8, 9] (Y.length + n2) (fun g so sc si wr => ∃ (ao : Option Addr) (no co : Nat) (os : List ByteArray) (ac : Option Addr) (nc cc : Nat) (cs : List ByteArray) (k : Nat), so = .slice ao no co ∧ sc = .slice ac nc cc ∧ si = .int .i64 k ∧ k ≤ n2 ∧
      wr.ownsRow w.heap.size 9 1 (.slice ao no co) no (os.map .string) ∧ Strs w ac nc cc cs ∧ Hid (os ++ yieldF p (cs ++ (rs.drop k).flatten) = yieldF p Y) ∧ no + g ≤ Y.length + n2 ∧ nc + (rs.drop k).flatten.length + (n2 - k) ≤ g ∧ Below w.heap.size w wr)
  case atStart =>
    refine ⟨none, 0, 0, [], a1, n1, c1, fs, 0, rfl, rfl, rfl, Nat.zero_le _, World.ownsRow_nil _ _ _ _, h1, ?_, by omega, ?_, Below.refl _ _⟩
    · show _ = _
      rw [List.drop_zero, List.nil_append, HY.out]
    · rw [List.drop_zero, ← HY.out, List.length_append, h1.len]; omega
  case round =>
    obtain ⟨ao, no, co, os, ac, nc, cc, cs, k, rfl, rfl, rfl, hk, hown, hcs, HI, hno, hg, hbel⟩ := hrel
    have hrl := h2.len
    have HRL := hide hrl
    clear hrl
    by_cases hc0 : nc = 0
    · subst hc0
      obtain rfl : cs = [] := List.eq_nil_of_length_eq_zero hcs.len
      by_cases hlt : k < n2
      · obtain ⟨b2, o2, rfl, hb2, g2⟩ := h2.at (by omega)
        obtain ⟨a3, n3, c3, e3, g3⟩ := g2 k hlt
        replace e3 : wr.cell? ⟨b2, o2 + k, none⟩ = some (.slice a3 n3 c3) := (hbel.cell (p := ⟨b2, o2 + k, none⟩) hb2).trans e3
        have HD := hide (drop_flat_cons rs k (by rw [HRL.out]; exact hlt))
        have hlen : (rs.drop k).flatten.length = n3 + (rs.drop (k + 1)).flatten.length := by rw [HD.out, List.length_append, g3.len]
        have HLen := hide hlen
        clear g2 hlen
        go_wp2
        go_roundg (gk - 1)
        case measure => have := HLen.out; omega
        case rel =>
          refine ⟨_, _, _, os, _, _, _, _, k + 1, rfl, rfl, by go_num, by omega, hown, g3, ?_, by omega, ?_, hbel⟩
          · show _ = _
            rw [← HD.out]
            simpa using HI.out
          · have := HLen.out; omega
      · have HE : Hid (os = yieldF p Y) := by
          have h1 := HI.out
          rw [List.drop_of_length_le (by rw [HRL.out]; omega)] at h1
          show _ = _
          simpa [yieldF] using h1
        go_wp2
        go_ret
        exact ⟨⟨_, _, _, rfl, by rw [← HE.out]; exact own_strs hown⟩, hbel⟩
    · obtain ⟨bc, oc, rfl, hbc, gc⟩ := hcs.at (by omega)
      have hc0' : ((nc : Int) == 0) = false := by rw [beq_eq_false_iff_ne]; omega
      have e4 : wr.cell? ⟨bc, oc, none⟩ = some (.string (cs.getD 0 ByteArray.empty)) := (hbel.cell (p := ⟨bc, oc, none⟩) hbc).trans (by have := gc 0 (by omega); rwa [Nat.add_zero] at this)
      have hcl := hcs.len
      obtain ⟨y, cs', rfl⟩ : ∃ y cs', cs = y :: cs' := by
        cases cs with
        | nil => simp at hcl; omega
        | cons y cs' => exact ⟨y, cs', rfl⟩
      rw [List.getD_cons_zero] at e4
      clear gc hcl
      cases hyp : hp y p with
      | false =>
        have HE : Hid (os = yieldF p Y) := by
          have h1 := HI.out
          rw [List.cons_append, yield_cons_no p y _ hyp] at h1
          show _ = _
          simpa using h1
        go_wp2_with (go_at_call 22; refine (hasPrefix_w _ _ _).mono ?_; rintro e w' ⟨rfl, rfl⟩)
        go_ret
        exact ⟨⟨_, _, _, rfl, by rw [← HE.out]; exact own_strs hown⟩, hbel⟩
      | true =>
        have hle := hp_le hyp
        have hcc := hcs.cap
        have hcl := hcs.le
        unfold maxLen at hcc
        have hcut := fun wx => run_cut22 (some ⟨bc, oc, none⟩) nc cc 1 1 rfl (by omega) wx
        have HC := hide (hcs.drop 1 (by omega))
        have HI2 : Hid ((os ++ [strip p y]) ++ yieldF p (cs' ++ (rs.drop k).flatten) = yieldF p Y) := by
          have h1 := HI.out
          rw [List.cons_append, yield_cons_yes p y _ hyp] at h1
          show _ = _
          rw [← h1]; simp
        clear HI
        go_wp2_with (first | (go_at_call 22; refine (hasPrefix_w _ _ _).mono ?_; rintro e w' ⟨rfl, rfl⟩) | (at_builtin; refine wpList_append_own _ rfl (.tmp 36) (.tmp 43) 22 rfl w.heap.size 9 i0 (.string ByteArray.empty) 1 16 Try.underlying22 hi hz0 hz1 hz2 rfl (by decide) _ _ _ rfl (hown.alloc _) ⟨_, 0, none⟩ 1 1 [.string (strip p y)] rfl rfl ?c1 ?c2 ?c3 ?c4 ?c5 ?_))
        case c1 => intro j u hj; match j, hj with | 0, hj => simp at hj; subst hj; simp [Addr.add, strip]
        case c2 => intro u hu; simp at hu; subst hu; rfl
        case c3 => unfold maxLen; omega
        case c4 => omega
        case c5 => have := hbel.size; simp; omega
        intro v' w1 hown1 hgrow1 _
        obtain ⟨a', c', rfl⟩ := own_form hown1
        go_wp2
        go_roundg (gk - 1)
        case measure => omega
        case rel =>
          refine ⟨_, no + 1, _, os ++ [strip p y], _, nc - 1, _, cs', k, rfl, rfl, rfl, hk, by rw [List.map_append]; exact hown1, HC.out, HI2, by omega, by omega, ?_⟩
          exact (hbel.alloc hbel.size _).grown hgrow1 (by have := hbel.size; simp; omega) (fun j hj => (hown.lt j hj).1)

end Go.Proofs.Qxb6605445a
