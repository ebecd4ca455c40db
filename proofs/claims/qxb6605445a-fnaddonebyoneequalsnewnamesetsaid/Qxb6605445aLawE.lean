/-
  The walk of FnAddOneByOneEqualsNewNameSet.
-/
import Derived.Test.Qxb6605445aLawC
import Derived.Test.Qxb6605445aWkT
import Derived.Test.Qxb6605445aPlD
namespace Go.Proofs.Qxb6605445a
open Go.RowKit
set_option linter.unusedVariables false
set_option linter.unusedSimpArgs false

theorem chunks_flat (ws : List ByteArray) : ∀ k, (chunks ws k).flatten = ws.take (512 * k)
  | 0 => by simp [chunks]
  | k + 1 => by
    have ih := chunks_flat ws k
    unfold chunks at ih ⊢
    rw [List.range_succ, List.map_append, List.flatten_append, ih]
    simp only [List.map_cons, List.map_nil, List.flatten_cons, List.flatten_nil, List.append_nil]
    rw [show 512 * (k + 1) = 512 * k + 512 by omega, List.take_add]
    rfl

theorem adj_pw : ∀ (l : List ByteArray), (∀ m, m + 1 < l.length → ltB (l.getD m ByteArray.empty) (l.getD (m + 1) ByteArray.empty)) → l.Pairwise ltB
  | [], _ => List.Pairwise.nil
  | [x], _ => by simp
  | x :: y :: l, h => by
    have ih := adj_pw (y :: l) fun m hm => by simpa [List.getD] using h (m + 1) (by simpa using hm)
    have h0 : ltB x y := by simpa [List.getD] using h 0 (by simp)
    refine List.Pairwise.cons (fun z hz => ?_) ih
    rcases List.mem_cons.1 hz with rfl | hz
    · exact h0
    · exact ltB_trans _ _ _ h0 (List.rel_of_pairwise_cons ih hz)

theorem pw_nodup {l : List ByteArray} (h : l.Pairwise ltB) : l.Nodup := by
  refine pw_mono (fun a b hab e => ?_) h
  rw [e] at hab
  exact ltB_irrefl _ hab
theorem pw_sorted {l : List ByteArray} (h : l.Pairwise ltB) : Sorted l := pw_mono (fun _ _ hab => (leB_iff _ _).2 (ltB_asymm hab)) h

theorem len_le_flat : ∀ (bs : List (List ByteArray)), (∀ b ∈ bs, 0 < b.length) → bs.length ≤ bs.flatten.length
  | [], _ => Nat.zero_le _
  | b :: bs, h => by
    have h1 := h b (by simp)
    have h2 := len_le_flat bs fun q hq => h q (by simp [hq])
    simp only [List.length_cons, List.flatten_cons, List.length_append]
    omega

theorem nodup_take {l : List ByteArray} (h : l.Nodup) {k : Nat} (hk : k < l.length) : l.getD k ByteArray.empty ∉ l.take k := by
  intro hm
  have h1 : (l.take k ++ l.drop k).Nodup := by rw [List.take_append_drop]; exact h
  have h3 : l.getD k ByteArray.empty ∈ l.drop k := by
    have e : l.getD k ByteArray.empty = l[k] := by simp [List.getD, hk]
    rw [e, List.drop_eq_getElem_cons hk]
    exact List.mem_cons_self
  exact (List.nodup_append.1 h1).2.2 _ hm _ h3 rfl

/-- The set while it is filled: k names are in. -/
structure Filled (ss : List ByteArray) (k : Nat) (bs : List (List ByteArray)) : Prop where
  set : IsSet bs 512
  perm : bs.flatten.Perm (ss.take k)

theorem Filled.step {ss : List ByteArray} {k : Nat} {bs bs' : List (List ByteArray)} (h : Filled ss k bs) (hnd : ss.Nodup) (hk : k < ss.length) (hA : AddP bs (ss.getD k ByteArray.empty) bs') : Filled ss (k + 1) bs' := by
  have hx : ss.getD k ByteArray.empty ∉ bs.flatten := fun hm => nodup_take hnd hk (h.perm.subset hm)
  obtain ⟨pos, hpos⟩ := cut_exists (q := fun j => ltB (bs.flatten.getD j ByteArray.empty) (ss.getD k ByteArray.empty)) bs.flatten.length (fun i j hij hj hq => by
    by_cases e : i = j
    · rw [e]; exact hq
    · exact ltB_trans _ _ _ (pw_getD h.set.2 (by omega) hj) hq)
  have hL := add_law h.set hA hx hpos
  refine ⟨hL.set, ?_⟩
  rw [hL.flat, take_snoc ByteArray.empty ss k hk]
  exact (ins_perm _ _ _).trans ((List.Perm.cons _ h.perm).trans (List.perm_append_singleton _ _).symm)

theorem Filled.len {ss : List ByteArray} {k : Nat} {bs : List (List ByteArray)} (h : Filled ss k bs) (hk : k ≤ ss.length) : bs.flatten.length = k ∧ bs.length ≤ k := by
  have h1 : bs.flatten.length = k := by rw [h.perm.length_eq, List.length_take]; omega
  exact ⟨h1, by rw [← h1]; exact len_le_flat bs fun b hb => (h.set.1 b hb).1⟩

set_option maxHeartbeats 4000000 in
set_option maxRecDepth 100000 in
theorem walk5 (a : Option Addr) (n c : Nat) (ss : List ByteArray) (w : World) (h : Strs w a n c ss) :
    Calls Try.prog 5 #[.slice a n c] w fun e w' => e = .returned (.bool true) ∧ Below w.heap.size w w' := by
  go_enter Try.func5, Try.ntmps5
  go_wp2_with fail
  refine (bytes19_w a n c ss _ h).mono ?_
  rintro e w1 ⟨⟨r, rfl, _⟩, rfl⟩
  cases r
  · go_wp2
    go_ret
    exact ⟨rfl, Below.refl _ _⟩
  go_wp2_with fail
  refine (stringsSmall_w a n c ss _ h).mono ?_
  rintro e w2 ⟨⟨r, rfl, hsm⟩, rfl⟩
  cases r
  · clear hsm
    go_wp2
    go_ret
    exact ⟨rfl, Below.refl _ _⟩
  have hn := hsm rfl
  clear hsm
  go_wp2_with fail
  refine (cloneStrings_w a n c ss _ h (by omega)).mono ?_
  rintro e w3 ⟨a3, rfl, ho3, hb3⟩
  have HL := hide h.len
  clear h
  have h3 := own_strs ho3
  have HO3 := hide ho3
  clear ho3
  go_wp2_with fail
  refine (mergeSort_w a3 n n ss _ h3 hn).mono ?_
  rintro e w4 ⟨⟨a4, ws, rfl, ho4, hperm, hsorted⟩, hb4⟩
  have HPm := hide hperm
  have HSo := hide hsorted
  have HW : Hid (sortS ss = ws) := sorted_unique ((sortS_perm ss).trans hperm.symm) (sortS_sorted ss) hsorted
  have HO4 := hide ho4
  have h4 := own_strs ho4
  have h34 := h3.below hb4 (Nat.le_refl _)
  have HB := hide (And.intro hb3 hb4)
  have HWL := hide h4.len
  clear ho4 hperm hsorted h3 hb3 hb4
  go_wp2
  go_loopw [4] (fun i wr => ∃ j q : Nat, i = .int .i64 j ∧ 1 ≤ j ∧ (j ≤ n ∨ j = 1) ∧ wr = w4.drewN q ∧ Hid (∀ m, m + 1 < j → ltB (ws.getD m ByteArray.empty) (ws.getD (m + 1) ByteArray.empty))) (fun i _ => n - (intOf i).toNat)
  case atStart => exact ⟨1, 0, rfl, Nat.le_refl _, .inr rfl, rfl, fun m hm => absurd hm (by omega)⟩
  case round =>
    obtain ⟨j, q, rfl, hj1, hjn, rfl, HAdj⟩ := hrel
    by_cases hlt : j < n
    · obtain ⟨m, rfl⟩ : ∃ m, j = m + 1 := ⟨j - 1, by omega⟩
      obtain ⟨b, off, rfl, hb, cc⟩ := h4.at (by omega)
      have e1 := cc m (by omega)
      have e2 := cc (m + 1) hlt
      generalize hy : ws.getD m ByteArray.empty = y at e1
      generalize hz : ws.getD (m + 1) ByteArray.empty = z at e2
      have HYZ := hide (And.intro hy hz)
      clear hy hz cc
      have i1 : (m : Int) < (n : Int) := by omega
      have i2 : IntKind.i64.wrap ((m : Int) + 1 - 1) = (m : Int) := by rw [IntKind.wrap_i64]; omega
      have i3 : IntKind.i64.wrap (m : Int) = (m : Int) := by rw [IntKind.wrap_i64]; omega
      have i4 : (m : Int) + 1 < (n : Int) := by omega
      cases hyz : Op.bytesLess y.toList z.toList with
      | true =>
        go_wp2
        go_quiet (fail)
        go_wp2
        go_roundw
        case rel =>
          refine ⟨m + 1 + 1, _, by go_num, by omega, by omega, rfl, fun m' hm' => ?_⟩
          by_cases e : m' = m
          · rw [e, HYZ.out.1, HYZ.out.2]; exact hyz
          · exact HAdj.out m' (by omega)
        case measure => simp [intOf]; omega
      | false =>
        go_wp2
        go_quiet (fail)
        go_wp2
        go_ret
        exact ⟨rfl, below_drewN (below_drewN (HB.out.1.trans (HB.out.2.mono HB.out.1.size)) _) _⟩
    · have hpw : ws.Pairwise ltB := adj_pw ws fun m hm => HAdj.out m (by rw [HWL.out] at hm; omega)
      have HNd : Hid ss.Nodup := HPm.out.nodup_iff.1 (pw_nodup hpw)
      have HPw := hide hpw
      clear hpw HAdj
      obtain ⟨w5, hw5⟩ : ∃ w5, w5 = w4.drewN q := ⟨_, rfl⟩
      rw [← hw5]
      have hb45 : Below w4.heap.size w4 w5 := by rw [hw5]; exact below_drewN (Below.refl _ _) _
      have HS5 : Hid (w5.heap.size = w4.heap.size) := by rw [hw5]; rfl
      have h5 := h34.below hb45 (Nat.le_refl _)
      have HB45 := hide hb45
      clear hw5 h4 h34 hb45
      go_wp2
      go_loopw [5, 6] (fun s i wr => ∃ (k : Nat) (a5 : Option Addr) (n5 c5 : Nat) (bs : List (List ByteArray)) (vs : List Value), s = .slice a5 n5 c5 ∧ i = .int .i64 k ∧ k ≤ n ∧ Hid (OB wr (fun j => w5.heap.size ≤ j) a5 n5 c5 bs vs ∧ Filled ss k bs ∧ Below w5.heap.size w5 wr)) (fun _ i _ => n - (intOf i).toNat)
      case atStart => exact ⟨0, none, 0, 0, [], [], rfl, rfl, Nat.zero_le _, OB.nil _ _, ⟨⟨fun b hb => (by cases hb), List.Pairwise.nil⟩, by simp⟩, Below.refl _ _⟩
      case round =>
        obtain ⟨k, a5, n5, c5, bs, vs, rfl, rfl, hk, HI⟩ := hrel
        have hlen := HI.out.2.1.len (by rw [HL.out]; exact hk)
        have hn5 : n5 ≤ k := by rw [← HI.out.1.len]; exact hlen.2
        have HLn := hide hlen
        clear hlen
        by_cases hkn : k < n
        · obtain ⟨b, off, rfl, hb, cc⟩ := h5.at (by omega)
          have e1 : wr.cell? ⟨b, off + k, none⟩ = some (.string (ss.getD k ByteArray.empty)) := (HI.out.2.2.cell (p := ⟨b, off + k, none⟩) hb).trans (cc k hkn)
          clear cc
          generalize hy : ss.getD k ByteArray.empty = y at e1
          have HY := hide hy
          clear hy
          go_wp2_with fail
          refine (zzAdd_w a5 n5 c5 bs vs y _ wr HI.out.1 (by omega) (fun b hb => (HI.out.2.1.set.1 b hb).2) (set_ordered HI.out.2.1.set) (fun j hj => Nat.le_trans HI.out.2.2.size hj)).mono ?_
          rintro e w6 ⟨a6, n6, c6, bs', vs', rfl, hO, hP, hK⟩
          have HN6 := hide (And.intro hO (And.intro hP hK))
          clear hO hP hK
          go_wp2
          go_roundw
          case rel =>
            refine ⟨k + 1, a6, n6, c6, bs', vs', rfl, by go_num, by omega, HN6.out.1, HI.out.2.1.step HNd.out (by rw [HL.out]; exact hkn) (by rw [HY.out]; exact HN6.out.2.1), ?_⟩
            have hK := HN6.out.2.2
            exact HI.out.2.2.trans ⟨hK.os, hK.tape, hK.output, hK.size, fun j hj => hK.block j (Nat.lt_of_lt_of_le hj HI.out.2.2.size) (by omega)⟩
          case measure => simp [intOf]; omega
        · obtain rfl : n = k := by omega
          have hbl := HI.out.1.blks
          go_wp2_with fail
          refine (isSet_w a5 n5 c5 bs _ _ hbl (by omega)).mono ?_
          rintro e w6 ⟨⟨r, rfl, hset⟩, rfl⟩
          obtain rfl : r = true := hset.2 HI.out.2.1.set
          clear hset
          go_wp2_with fail
          refine (flatten_w a5 n5 c5 bs _ hbl (by omega) (by rw [HLn.out.1]; omega)).mono ?_
          rintro e w7 ⟨aG, rfl, hoG, hb7⟩
          have HFl : Hid (bs.flatten = ws) := by
            refine sorted_unique ?_ (pw_sorted HI.out.2.1.set.2) HSo.out
            have h1 := HI.out.2.1.perm
            rw [List.take_of_length_le (by rw [HL.out]; exact Nat.le_refl _)] at h1
            exact h1.trans HPm.out.symm
          have hG := own_strs hoG
          have hbel7 : Below w5.heap.size w5 w7 := HI.out.2.2.trans (hb7.mono HI.out.2.2.size)
          have hws7 : Strs w7 a4 n n ws := ((own_strs HO4.out).below HB45.out (Nat.le_refl _)).below hbel7 (Nat.le_refl _)
          rw [HLn.out.1] at hG ⊢
          have HB7 := hide hbel7
          clear hoG hb7 hbl hbel7
          go_wp2_with fail
          refine (equal_w _ _ _ _ _ _ _ _ _ hG hws7).mono ?_
          rintro e w8 ⟨rfl, q8, rfl⟩
          rw [decide_eq_true HFl.out]
          clear hG
          have hown : Own (w7.drewN q8) w2.heap.size a3 n n ss := by
            have h1 : Own w5 w2.heap.size a3 n n ss := ((own_own HO3.out).below HB.out.2 (Nat.le_refl _)).below HB45.out (Nat.le_refl _)
            exact h1.below (below_drewN HB7.out q8) (Nat.le_refl _)
          go_wp2_with fail
          refine (zzNewNameSet_w a3 n n ss _ _ hown hn).mono ?_
          rintro e w9 ⟨⟨ab, cb, k, rfl, hblk, hk1, hk2⟩, row, hrow, hgrow⟩
          have hlt3 := HO3.out.lt
          have hlt4 := HO4.out.lt
          have hws9 : Strs w9 a4 n n ws := (hws7.drewN q8).grown hgrow (fun j hj b hb e => by
            have h1 := (hlt3 j (hrow j hj)).2
            have h2 := (hlt4 b (by rw [ownBlock_slice]; exact hb)).1
            omega)
          have HB9 : Hid (Below w2.heap.size w2 w9) := by
            have h1 := HB.out.1
            have h2 := HB.out.2.mono h1.size
            have h3 := HB45.out.mono (Nat.le_trans h1.size HB.out.2.size)
            have h5 := (below_drewN HB7.out q8).mono (Nat.le_trans (Nat.le_trans h1.size HB.out.2.size) HB45.out.size)
            exact (h1.trans (h2.trans (h3.trans h5))).grown hgrow (Nat.le_trans (Nat.le_trans (Nat.le_trans h1.size HB.out.2.size) HB45.out.size) h5.size) (fun j hj => (hlt3 j (hrow j hj)).1)
          have hcf : (chunks (sortS ss) k).flatten = ws := by
            rw [chunks_flat, HW.out, List.take_of_length_le (by rw [HWL.out]; exact hk1)]
          have HCF := hide hcf
          have hcl : (chunks (sortS ss) k).flatten.length = n := by rw [hcf]; exact HWL.out
          have HCL := hide hcl
          clear hcf hcl hlt3 hlt4 hrow hgrow hown hws7
          go_wp2_with fail
          refine (flatten_w ab k cb _ _ hblk (by omega) (by rw [HCL.out]; omega)).mono ?_
          rintro e w10 ⟨aH, rfl, hoH, hb10⟩
          have hH := own_strs hoH
          rw [HCL.out, HCF.out] at hH
          rw [HCL.out]
          have hws10 := hws9.below hb10 (Nat.le_refl _)
          have HB10 : Hid (Below w2.heap.size w2 w10) := HB9.out.trans (hb10.mono HB9.out.size)
          clear hoH hb10 hws9 hblk
          go_wp2_with fail
          refine (equal_w _ _ _ _ _ _ _ _ _ hH hws10).mono ?_
          rintro e w11 ⟨rfl, q11, rfl⟩
          rw [decide_eq_true (rfl : ws = ws)]
          go_wp2
          go_ret
          exact ⟨rfl, below_drewN HB10.out _⟩

end Go.Proofs.Qxb6605445a
