/-
  The walk of FnNewNameSetIsSortedChunksOf512.
-/
import Derived.Test.Qxb6605445aWkL
import Derived.Test.Qxb6605445aWkO
namespace Go.Proofs.Qxb6605445a
open Go.RowKit
set_option linter.unusedVariables false
set_option linter.unusedSimpArgs false

theorem Strs.grown {w w' : World} {a : Option Addr} {n c : Nat} {ss : List ByteArray} {row : Option Nat} (h : Strs w a n c ss) (hg : w.grownBy w' row) (hne : ∀ j, row = some j → ∀ b, a.map (·.block) = some b → b ≠ j) : Strs w' a n c ss := by
  refine ⟨h.len, h.le, h.cap, ?_⟩
  rcases h.cells with h0 | ⟨b, off, rfl, hb, g⟩
  · exact .inl h0
  · refine .inr ⟨b, off, rfl, Nat.lt_of_lt_of_le hb hg.size, fun i hi => ?_⟩
    exact hg.cell (g i hi) (fun e => hne b e.symm b rfl rfl)

theorem chunk_len (ws : List ByteArray) (i : Nat) : (chunk ws i).length = min 512 (ws.length - 512 * i) := by simp [chunk]
theorem chunk_getD (ws : List ByteArray) (i j : Nat) (hj : j < 512) : (chunk ws i).getD j ByteArray.empty = ws.getD (512 * i + j) ByteArray.empty := by
  simp [chunk, List.getD, List.getElem?_take, hj]
theorem chunks_getD (ws : List ByteArray) (k i : Nat) (hi : i < k) : (chunks ws k).getD i [] = chunk ws i := by simp [chunks, List.getD, hi]

set_option maxHeartbeats 2000000 in
set_option maxRecDepth 100000 in
theorem walk3 (a : Option Addr) (n c : Nat) (ss : List ByteArray) (w : World) (h : Strs w a n c ss) :
    Calls Try.prog 3 #[.slice a n c] w fun e w' => e = .returned (.bool true) ∧ Below w.heap.size w w' := by
  go_enter Try.func3, Try.ntmps3
  go_wp2_with fail
  refine (bytes8_w a n c ss _ h).mono ?_
  rintro e w1 ⟨⟨r, rfl, _⟩, rfl⟩
  cases r
  · go_wp2
    go_ret
    exact ⟨rfl, Below.refl _ _⟩
  go_wp2_with fail
  refine (stringsSmall_w a n c ss _ h).mono ?_
  rintro e w2 ⟨⟨r, rfl, hsm⟩, rfl⟩
  cases r
  · clear hsm
    go_wp2
    go_ret
    exact ⟨rfl, Below.refl _ _⟩
  have hn := hsm rfl
  clear hsm
  go_wp2_with fail
  refine (cloneStrings_w a n c ss _ h (by omega)).mono ?_
  rintro e w3 ⟨a3, rfl, ho3, hb3⟩
  have HL := hide h.len
  clear h
  have h3 := own_strs ho3
  have HO3 := hide ho3
  clear ho3
  go_wp2_with fail
  refine (mergeSort_w a3 n n ss _ h3 hn).mono ?_
  rintro e w4 ⟨⟨a4, ws, rfl, ho4, hperm, hsorted⟩, hb4⟩
  have HW : Hid (sortS ss = ws) := sorted_unique ((sortS_perm ss).trans hperm.symm) (sortS_sorted ss) hsorted
  have HO4 := hide ho4
  clear ho4 hperm hsorted h3
  go_wp2_with fail
  refine (zzNewNameSet_w a3 n n ss _ _ ((own_own HO3.out).below hb4 (Nat.le_refl _)) hn).mono ?_
  rintro e w5 ⟨⟨ab, cb, k, rfl, hblk, hk1, hk2⟩, row, hrow, hgrow⟩
  have hlt3 := HO3.out.lt
  have hlt4 := HO4.out.lt
  have h4 : Strs w5 a4 n n ws := (own_strs HO4.out).grown hgrow (fun j hj b hb e => by
    have h1 := (hlt3 j (hrow j hj)).2
    have h2 := (hlt4 b (by cases a4 <;> simp_all [Value.ownBlock])).1
    omega)
  have hb5 : Below w2.heap.size w2 w5 := (hb3.trans (hb4.mono hb3.size)).grown hgrow (Nat.le_trans hb3.size hb4.size) (fun j hj => (hlt3 j (hrow j hj)).1)
  clear hlt3 hlt4 hrow hgrow HO3 HO4 hb3 hb4
  rw [HW.out] at hblk
  have HWL : Hid (ws.length = n) := h4.len
  clear HW
  have hdiv : ((n : Int) + 512 - 1) / 512 = (k : Int) := by omega
  go_wp2
  go_loopw [7, 8] (fun s i wr => ∃ b z q : Nat, i = .int .i64 b ∧ s = .int .i64 z ∧ b ≤ k ∧ Hid (z = min (512 * b) n) ∧ wr = w5.drewN q) (fun _ i _ => k - (intOf i).toNat)
  case atStart => exact ⟨0, 0, 0, rfl, rfl, Nat.zero_le _, by show _ = _; omega, rfl⟩
  case round =>
    obtain ⟨b, z, q, rfl, rfl, hb, HZ, rfl⟩ := hrel
    clear hdiv
    by_cases hlt : b < k
    · have hzn : z < n := by have := HZ.out; omega
      have HZ2 : Hid (z = 512 * b) := by show _ = _; have := HZ.out; omega
      obtain ⟨bb, ob, rfl, hbb, gb⟩ := hblk.at (by omega)
      obtain ⟨a1, n1, c1, e1, g2⟩ := gb b hlt
      clear gb
      by_cases hbig : 512 < n - z
      · have hbig2 : (512 : Int) < (n : Int) - (z : Int) := by omega
        have he1 : 512 ≤ 512 := by omega
        have he2 : z + 512 ≤ n := by omega
        have hlen : n1 = 512 := by have h1 := g2.len; rw [chunks_getD ws k b hlt, chunk_len, HWL.out] at h1; have h2 := HZ.out; omega
        subst hlen
        go_wp2
        go_loopw [10] (fun i wr => ∃ j q : Nat, i = .int .i64 j ∧ j ≤ 512 ∧ wr = w5.drewN q) (fun i _ => 512 - (intOf i).toNat)
        case atStart => exact ⟨0, q, rfl, Nat.zero_le _, rfl⟩
        case round =>
          obtain ⟨j, q, rfl, hj, rfl⟩ := hrel
          by_cases hlt2 : j < 512
          · obtain ⟨b1, o1, rfl, hb1, c1'⟩ := g2.at (by omega)
            have e2 := c1' j hlt2
            rw [chunks_getD ws k b hlt, chunk_getD ws b j (by omega)] at e2
            obtain ⟨b4, o4, rfl, hb4, c4⟩ := h4.at (by omega)
            have e3 := c4 (z + j) (by omega)
            rw [HZ2.out] at e3
            generalize ws.getD (512 * b + j) ByteArray.empty = y at e2 e3
            have i1 : (0 : Int) ≤ (z : Int) + (j : Int) := by omega
            have i2 : (z : Int) + (j : Int) < (n : Int) := by omega
            have i3 : ((z : Int) + (j : Int)).toNat = z + j := by omega
            have i4 : IntKind.i64.wrap ((z : Int) + (j : Int)) = (z : Int) + (j : Int) := wrap_small _ (by omega) (by omega)
            rw [← HZ2.out] at e3
            clear c1' c4
            go_wp2
            go_quiet (fail)
            go_wp2
            go_roundw
            case rel => exact ⟨j + 1, _, by go_num, by omega, rfl⟩
            case measure => simp [intOf]; omega
          · go_wp2
            go_roundw
            case rel => exact ⟨b + 1, z + 512, _, by go_num, by go_num, by omega, by show _ = _; have h2 := HZ.out; omega, rfl⟩
            case measure => simp [intOf]; omega
      · have hbig2 : ¬ (512 : Int) < (n : Int) - (z : Int) := by omega
        have he1 : (n - z) ≤ 512 := by omega
        have he2 : z + (n - z) ≤ n := by omega
        have hlen : n1 = (n - z) := by have h1 := g2.len; rw [chunks_getD ws k b hlt, chunk_len, HWL.out] at h1; have h2 := HZ.out; omega
        obtain ⟨e, he⟩ : ∃ e, e = n - z := ⟨_, rfl⟩
        rw [← he] at hlen he1 he2
        have hsub : (n : Int) - (z : Int) = (e : Int) := by omega
        have HEE := hide he
        clear he
        subst hlen
        go_wp2
        go_loopw [10] (fun i wr => ∃ j q : Nat, i = .int .i64 j ∧ j ≤ n1 ∧ wr = w5.drewN q) (fun i _ => n1 - (intOf i).toNat)
        case atStart => exact ⟨0, q, rfl, Nat.zero_le _, rfl⟩
        case round =>
          obtain ⟨j, q, rfl, hj, rfl⟩ := hrel
          by_cases hlt2 : j < n1
          · obtain ⟨b1, o1, rfl, hb1, c1'⟩ := g2.at (by omega)
            have e2 := c1' j hlt2
            rw [chunks_getD ws k b hlt, chunk_getD ws b j (by omega)] at e2
            obtain ⟨b4, o4, rfl, hb4, c4⟩ := h4.at (by omega)
            have e3 := c4 (z + j) (by omega)
            rw [HZ2.out] at e3
            generalize ws.getD (512 * b + j) ByteArray.empty = y at e2 e3
            have i1 : (0 : Int) ≤ (z : Int) + (j : Int) := by omega
            have i2 : (z : Int) + (j : Int) < (n : Int) := by omega
            have i3 : ((z : Int) + (j : Int)).toNat = z + j := by omega
            have i4 : IntKind.i64.wrap ((z : Int) + (j : Int)) = (z : Int) + (j : Int) := wrap_small _ (by omega) (by omega)
            rw [← HZ2.out] at e3
            clear c1' c4
            go_wp2
            go_quiet (fail)
            go_wp2
            go_roundw
            case rel => exact ⟨j + 1, _, by go_num, by omega, rfl⟩
            case measure => simp [intOf]; omega
          · go_wp2
            go_roundw
            case rel => exact ⟨b + 1, z + n1, _, by go_num, by go_num, by omega, by show _ = _; have h2 := HZ.out; have h3 := HEE.out; omega, rfl⟩
            case measure => simp [intOf]; omega
    · go_wp2
      go_ret
      exact ⟨rfl, below_drewN hb5 _⟩

end Go.Proofs.Qxb6605445a
