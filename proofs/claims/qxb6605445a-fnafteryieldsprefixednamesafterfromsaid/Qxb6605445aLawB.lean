/-
  The walk of FnAfterYieldsPrefixedNamesAfterFrom.
-/
import Derived.Test.Qxb6605445aWkF
import Derived.Test.Qxb6605445aWkJ
import Derived.Test.Qxb6605445aLawA
import Derived.Test.Qxb6605445aPlB
namespace Go.Proofs.Qxb6605445a
open Go.RowKit
set_option linter.unusedVariables false
set_option linter.unusedSimpArgs false

/-- Of the names l those that are wanted, without their lead. -/
def sel (p x : ByteArray) (l : List ByteArray) : List ByteArray := (l.filter (wanted p x)).map (strip p)
theorem sel_yes (p x : ByteArray) (l : List ByteArray) (y : ByteArray) (h : wanted p x y = true) : sel p x (l ++ [y]) = sel p x l ++ [strip p y] := by simp [sel, List.filter_append, h]
theorem sel_no (p x : ByteArray) (l : List ByteArray) (y : ByteArray) (h : wanted p x y = false) : sel p x (l ++ [y]) = sel p x l := by simp [sel, List.filter_append, h]
theorem sel_len (p x : ByteArray) (bs : List (List ByteArray)) (k t : Nat) : (sel p x (upto bs k t)).length ≤ bs.flatten.length := by
  unfold sel
  rw [List.length_map]
  exact Nat.le_trans (List.length_filter_le _ _) (upto_prefix bs k t).length_le

theorem yield_nil (a1 : Option Addr) (c1 : Nat) (a2 : Option Addr) (n2 c2 : Nat) (p : ByteArray) (w : World) :
    Calls Try.prog 25 #[.slice a1 0 c1, .slice a2 n2 c2, .string p] w fun e w' => e = .returned (.slice none 0 0) ∧ w' = w := by
  go_enter Try.func25, Try.ntmps25
  go_wp2
  go_ret
  exact ⟨rfl, rfl⟩

/-- zzYield, whatever the run. -/
theorem yield_any (a1 : Option Addr) (n1 c1 : Nat) (fs : List ByteArray) (a2 : Option Addr) (n2 c2 : Nat) (rs : List (List ByteArray)) (p : ByteArray) (w : World) (h1 : Strs w a1 n1 c1 fs) (h2 : Blks w a2 n2 c2 rs) (hn2 : n2 ≤ 1048576)
    (hN : (fs ++ rs.flatten).length ≤ 1048576) :
    Calls Try.prog 25 #[.slice a1 n1 c1, .slice a2 n2 c2, .string p] w fun e w' => (∃ a c n, e = .returned (.slice a n c) ∧ Strs w' a n c (gotF p fs rs)) ∧ Below w.heap.size w w' := by
  by_cases hn : n1 = 0
  · subst hn
    refine (yield_nil a1 c1 a2 n2 c2 p w).mono fun e w' ⟨he, hw⟩ => ?_
    subst hw
    exact ⟨⟨_, _, _, he, by rw [gotF, if_pos h1.len]; exact Strs.nil _⟩, Below.refl _ _⟩
  · refine (yield_w a1 n1 c1 fs a2 n2 c2 rs p w h1 h2 (by omega) hn2 hN).mono fun e w' ⟨⟨a, c, n, he, hs⟩, hb⟩ => ?_
    exact ⟨⟨a, c, n, he, by rw [gotF, if_neg (by rw [h1.len]; exact hn)]; exact hs⟩, hb⟩

/-- The run holds no more names than the set. -/
theorem after_small {bs : List (List ByteArray)} {limit : Nat} (h : IsSet bs limit) {p x : ByteArray} {fs : List ByteArray} {rs : List (List ByteArray)} {q : ByteArray} (hA : AfterP bs p x fs rs q) : (fs ++ rs.flatten).length ≤ bs.flatten.length ∧ rs.length ≤ bs.length := by
  obtain ⟨t, ht⟩ := scan_exists bs.flatten x
  have L := after_law h hA ht
  by_cases hor : t = bs.flatten.length ∨ hp (bs.flatten.getD t ByteArray.empty) p = false
  · obtain ⟨rfl, rfl⟩ := L.none hor
    simp
  · obtain ⟨_, _, hdrop, k, _, _, hrs, _⟩ := L.some hor
    refine ⟨by rw [← hdrop, List.length_drop]; omega, by rw [hrs, List.length_drop]; omega⟩

set_option maxHeartbeats 4000000 in
set_option maxRecDepth 100000 in
theorem walk7 (a : Option Addr) (n c : Nat) (bs : List (List ByteArray)) (p x : ByteArray) (w : World) (h : Blks w a n c bs) :
    Calls Try.prog 7 #[.slice a n c, .string p, .string x] w fun e w' => e = .returned (.bool true) ∧ Below w.heap.size w w' := by
  by_cases hps : 1048576 < p.size
  · go_enter Try.func7, Try.ntmps7
    go_wp2_with (go_at_call 24; refine (bytes24_w a n c bs p x _ h).mono ?_; rintro e w1 ⟨⟨r, rfl, _⟩, rfl⟩; cases r)
    all_goals (go_ret; exact ⟨rfl, Below.refl _ _⟩)
  by_cases hxs : 1048576 < x.size
  · go_enter Try.func7, Try.ntmps7
    go_wp2_with (go_at_call 24; refine (bytes24_w a n c bs p x _ h).mono ?_; rintro e w1 ⟨⟨r, rfl, _⟩, rfl⟩; cases r)
    all_goals (go_ret; exact ⟨rfl, Below.refl _ _⟩)
  go_enter Try.func7, Try.ntmps7
  go_wp2_with fail
  refine (bytes24_w a n c bs p x _ h).mono ?_
  rintro e w1 ⟨⟨r, rfl, _⟩, rfl⟩
  cases r
  · go_wp2
    go_ret
    exact ⟨rfl, Below.refl _ _⟩
  go_wp2_with fail
  refine (blocksSmall_w a n c bs _ _ h (by omega) (by omega)).mono ?_
  rintro e w2 ⟨⟨r, rfl, hsm⟩, rfl⟩
  cases r
  · go_wp2
    go_ret
    exact ⟨rfl, Below.refl _ _⟩
  obtain ⟨hn, hN⟩ := hsm rfl
  clear hsm
  go_wp2_with fail
  refine (isSet_w a n c bs _ _ h (by omega)).mono ?_
  rintro e w3 ⟨⟨r, rfl, hset⟩, rfl⟩
  cases r
  · clear hset hN
    go_wp2
    go_ret
    exact ⟨rfl, Below.refl _ _⟩
  have HSet := hide (And.intro (hset.1 rfl) hN)
  clear hset hN
  go_wp2_with fail
  refine (hasPrefix_w x p _).mono ?_
  rintro e w4 ⟨rfl, rfl⟩
  cases hxp : hp x p
  · go_wp2
    go_ret
    exact ⟨rfl, Below.refl _ _⟩
  have HXP := hide hxp
  clear hxp
  go_wp2_with fail
  refine (cloneBlocks_w a n c bs _ h (by omega) (fun b hb => by have := (HSet.out.1.1 b hb).2; simp at this; omega)).mono ?_
  rintro e w5 ⟨a5, rfl, ho5, hb5⟩
  have h5 := ho5.blks
  clear ho5 h
  have hN5 : bs.flatten.length ≤ 1048576 := by have := HSet.out.2; omega
  obtain ⟨i0, hi, hz0, hz1, hz2⟩ := info_parts info9
  have HL := hide h5.len
  go_wp2
  go_loopw [7, 8] (fun so si wr => ∃ (k : Nat) (ao : Option Addr) (no co : Nat), k ≤ n ∧ si = .int .i64 k ∧ so = .slice ao no co ∧ wr.ownsRow w5.heap.size 9 1 (.slice ao no co) no ((sel p x (upto bs k 0)).map .string) ∧ Below w5.heap.size w5 wr) (fun _ i _ => n - (intOf i).toNat)
  case atStart => exact ⟨0, none, 0, 0, Nat.zero_le _, rfl, rfl, World.ownsRow_nil _ _ _ _, Below.refl _ _⟩
  case round =>
    obtain ⟨k, ao, no, co, hk, rfl, rfl, hown, hbel⟩ := hrel
    by_cases hlt : k < n
    · obtain ⟨b, off, rfl, hbl, g⟩ := h5.at (by omega)
      obtain ⟨a1, n1, c1, g1, g2⟩ := g k hlt
      have hkb : k < bs.length := by rw [HL.out]; exact hlt
      have hc1 := g2.cap
      have hl1 := g2.le
      unfold maxLen at hc1
      clear g
      replace e1 : wr.cell? ⟨b, off + k, none⟩ = some (.slice a1 n1 c1) := (hbel.cell (p := ⟨b, off + k, none⟩) hbl).trans g1
      go_wp2
      go_loopw [7, 9] (fun so si wr => ∃ (t : Nat) (ao : Option Addr) (no co : Nat), t ≤ n1 ∧ si = .int .i64 t ∧ so = .slice ao no co ∧ wr.ownsRow w5.heap.size 9 1 (.slice ao no co) no ((sel p x (upto bs k t)).map .string) ∧ Below w5.heap.size w5 wr) (fun _ i _ => n1 - (intOf i).toNat)
      case atStart => exact ⟨0, ao, no, co, Nat.zero_le _, rfl, rfl, hown, hbel⟩
      case round =>
        clear hown hbel e1
        obtain ⟨t, ao, no, co, ht, rfl, rfl, hown, hbel⟩ := hrel
        have e1 : wr.cell? ⟨b, off + k, none⟩ = some (.slice a1 n1 c1) := (hbel.cell (p := ⟨b, off + k, none⟩) hbl).trans g1
        by_cases hlt2 : t < n1
        · obtain ⟨b2, off2, rfl, hbl2, g3⟩ := g2.at (by omega)
          have e2 : wr.cell? ⟨b2, off2 + t, none⟩ = some (.string ((bs.getD k []).getD t ByteArray.empty)) := (hbel.cell (p := ⟨b2, off2 + t, none⟩) hbl2).trans (g3 t hlt2)
          have htb : t < (bs.getD k []).length := by rw [g2.len]; exact hlt2
          have HU := hide (upto_succ bs k t htb)
          have hno : no ≤ 1048576 := by
            have h1 := hown.1
            rw [List.length_map] at h1
            have h2 := sel_len p x bs k t
            omega
          clear g3 htb
          generalize hy : (bs.getD k []).getD t ByteArray.empty = y at e2 HU
          clear hy
          cases hxy : Op.bytesLess x.toList y.toList with
          | false =>
            have HW : Hid (wanted p x y = false) := by show _ = _; simp [wanted, hxy]
            go_wp2
            go_roundw
            case rel => exact ⟨t + 1, _, _, _, by omega, by go_num, rfl, by rw [HU.out, sel_no p x _ y HW.out]; exact hown, hbel⟩
            case measure => simp [intOf]; omega
          | true =>
            cases hyp : hp y p with
            | false =>
              have HW : Hid (wanted p x y = false) := by show _ = _; simp [wanted, hyp]
              go_wp2_with (go_at_call 22; refine (hasPrefix_w _ _ _).mono ?_; rintro e w' ⟨rfl, rfl⟩)
              go_roundw
              case rel => exact ⟨t + 1, _, _, _, by omega, by go_num, rfl, by rw [HU.out, sel_no p x _ y HW.out]; exact hown, hbel⟩
              case measure => simp [intOf]; omega
            | true =>
              have HW : Hid (wanted p x y = true) := by show _ = _; simp [wanted, hyp, hxy]
              have hle := hp_le hyp
              go_wp2_with (first | (go_at_call 22; refine (hasPrefix_w _ _ _).mono ?_; rintro e w' ⟨rfl, rfl⟩) | (at_builtin; refine wpList_append_own _ rfl (.tmp 77) (.tmp 82) 22 rfl w5.heap.size 9 i0 (.string ByteArray.empty) 1 16 Try.underlying22 hi hz0 hz1 hz2 rfl (by decide) _ _ _ rfl (hown.alloc _) ⟨_, 0, none⟩ 1 1 [.string (strip p y)] rfl rfl ?c1 ?c2 ?c3 ?c4 ?c5 ?_))
              case c1 => intro j u hj; match j, hj with | 0, hj => simp at hj; subst hj; simp [Addr.add, strip]
              case c2 => intro u hu; simp at hu; subst hu; rfl
              case c3 => unfold maxLen; omega
              case c4 => omega
              case c5 => have := hbel.size; simp; omega
              intro v' w1 hown1 hgrow1 _
              obtain ⟨a', c', rfl⟩ := own_form hown1
              go_wp2
              go_roundw
              case rel =>
                refine ⟨t + 1, _, _, _, by omega, by go_num, rfl, by rw [HU.out, sel_yes p x _ y HW.out, List.map_append]; exact hown1, ?_⟩
                exact (hbel.alloc hbel.size _).grown hgrow1 (by have := hbel.size; simp; omega) (fun j hj => (hown.lt j hj).1)
              case measure => simp [intOf]; omega
        · obtain rfl : t = n1 := by omega
          go_wp2
          go_roundw
          case rel => exact ⟨k + 1, _, _, _, by omega, by go_num, rfl, by rw [← upto_full bs k t hkb g2.len]; exact hown, hbel⟩
          case measure => simp [intOf]; omega
    · obtain rfl : k = n := by omega
      have hW := own_strs hown
      rw [upto_end bs k HL.out] at hW
      have h6 := h5.below hbel (Nat.le_refl _)
      have HCall := hide (zzAfter_w a5 k k bs p x wr h6 (by omega) (fun b hb => by have := (HSet.out.1.1 b hb).2; simp at this; omega) (set_ordered HSet.out.1))
      clear hown h5 hi hz0 hz1 hz2
      go_wp2_with fail
      refine HCall.out.mono ?_
      rintro e w7 ⟨⟨v1, v2, v3, rfl, hA⟩, hb7⟩
      obtain ⟨a3, n3, c3, a4, n4, c4, q, fs, rs, rfl, rfl, rfl, s3, s4, hP⟩ := hA.split
      have hsm := after_small HSet.out.1 hP
      have HLaw := hide (yields_law HSet.out.1 HXP.out hP)
      have hn4 : n4 ≤ 1048576 := by have := hsm.2; rw [s4.len, HL.out] at this; omega
      have HSm : Hid ((fs ++ rs.flatten).length ≤ 1048576) := by show _ ≤ _; have := hsm.1; omega
      clear hsm hP hA HCall h6
      replace hW := hW.below hb7 (Nat.le_refl _)
      go_wp2_with fail
      refine (yield_any a3 n3 c3 fs a4 n4 c4 rs q _ s3 s4 hn4 HSm.out).mono ?_
      rintro e w8 ⟨⟨a8, c8, n8, rfl, hs8⟩, hb8⟩
      replace hW := hW.below hb8 (Nat.le_refl _)
      rw [HLaw.out] at hs8
      have hbw : Below w4.heap.size w4 w8 := ((hb5.trans (hbel.mono hb5.size)).trans (hb7.mono (Nat.le_trans hb5.size hbel.size))).trans (hb8.mono (Nat.le_trans (Nat.le_trans hb5.size hbel.size) hb7.size))
      clear s3 s4 HLaw HSm
      go_wp2_with fail
      refine (equal_w _ _ _ _ _ _ _ _ _ hs8 hW).mono ?_
      rintro e w9 ⟨rfl, q9, rfl⟩
      rw [decide_eq_true (show (bs.flatten.filter (wanted p x)).map (strip p) = sel p x bs.flatten from rfl)]
      go_wp2
      go_ret
      exact ⟨rfl, below_drewN hbw _⟩

end Go.Proofs.Qxb6605445a
