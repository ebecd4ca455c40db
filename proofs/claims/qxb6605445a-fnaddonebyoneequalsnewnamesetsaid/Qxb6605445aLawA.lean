/-
  The walk of FnAfterIsTheSetTailAfterFrom.
-/
import Derived.Test.Qxb6605445aWkF
import Derived.Test.Qxb6605445aWkJ
import Derived.Test.Qxb6605445aPlA
namespace Go.Proofs.Qxb6605445a
open Go.RowKit
set_option linter.unusedVariables false
set_option linter.unusedSimpArgs false

theorem OBlks.below {w w' : World} {base : Nat} {a : Option Addr} {n c : Nat} {bs : List (List ByteArray)} (h : OBlks w base a n c bs) (hb : Below w.heap.size w w') : OBlks w' base a n c bs := by
  obtain ⟨vs, h1, h2⟩ := h
  exact ⟨vs, h1.kept (row := none) ⟨hb.os, hb.tape, hb.output, hb.size, fun j hj _ => hb.block j hj⟩ (by cases h : (Value.slice a n c).ownBlock <;> simp), h2.below hb (Nat.le_refl _)⟩

theorem AfterIs.split {w : World} {bs : List (List ByteArray)} {p x : ByteArray} {v1 v2 v3 : Value} (h : AfterIs w bs p x v1 v2 v3) :
    ∃ (a3 : Option Addr) (n3 c3 : Nat) (a4 : Option Addr) (n4 c4 : Nat) (q : ByteArray) (fs : List ByteArray) (rs : List (List ByteArray)), v1 = .slice a3 n3 c3 ∧ v2 = .slice a4 n4 c4 ∧ v3 = .string q ∧ Strs w a3 n3 c3 fs ∧ Blks w a4 n4 c4 rs ∧ AfterP bs p x fs rs q := by
  rcases h with ⟨h1, rfl, rfl, rfl⟩ | ⟨k, i, f, a3, n3, c3, a4, n4, c4, h1, h2, h3, h4, rfl, rfl, rfl, h8, h9⟩
  · exact ⟨_, _, _, _, _, _, _, _, _, rfl, rfl, rfl, Strs.nil w, Blks.nil w, .inl ⟨h1, rfl, rfl, rfl⟩⟩
  · exact ⟨_, _, _, _, _, _, _, _, _, rfl, rfl, rfl, h8, h9, .inr ⟨k, i, f, h1, h2, h3, h4, rfl, rfl, rfl⟩⟩

/-- A later name sorts behind x: so does the last. -/
theorem last_not {F : List ByteArray} (h : F.Pairwise ltB) {x : ByteArray} {t : Nat} (ht : t < F.length) (hx : ltB x (F.getD t ByteArray.empty)) : ¬ ltB (F.getD (F.length - 1) ByteArray.empty) x := by
  intro hl
  rcases last_ge h (getD_mem (d := ByteArray.empty) ht) with he | hlt
  · rw [he] at hx; exact ltB_asymm hx hl
  · exact ltB_asymm (ltB_trans _ _ _ hx hlt) hl

theorem Blks.drewN {w : World} {a : Option Addr} {n c : Nat} {bs : List (List ByteArray)} (q : Nat) (h : Blks w a n c bs) : Blks (w.drewN q) a n c bs :=
  h.below (B := w.heap.size) (below_drewN (Below.refl _ _) q) (Nat.le_refl _)

/-- Two slices of the same strings: zzEqualStrings says yes, whatever has been drawn. -/
theorem equal_yes {w : World} {a1 : Option Addr} {n1 c1 : Nat} {xs : List ByteArray} {a2 : Option Addr} {n2 c2 : Nat} {ys : List ByteArray} (h1 : Strs w a1 n1 c1 xs) (h2 : Strs w a2 n2 c2 ys) (he : xs = ys) (m : Nat) :
    Calls Try.prog 20 #[.slice a1 n1 c1, .slice a2 n2 c2] (w.drewN m) fun e w'' => e = .returned (.bool true) ∧ ∃ k, w'' = w.drewN (m + k) :=
  (equal_w a1 n1 c1 xs a2 n2 c2 ys _ (h1.drewN m) (h2.drewN m)).mono fun _ _ ⟨h, k, hk⟩ => ⟨by rw [h, decide_eq_true he], k, by rw [hk, World.drewN_drewN]⟩
theorem more_drawn {w w'' : World} {m x : Nat} (h : ∃ k, w'' = w.drewN (m + x + k)) : ∃ k, w'' = w.drewN (m + k) := by
  obtain ⟨k, hk⟩ := h
  exact ⟨x + k, by rw [hk, Nat.add_assoc]⟩

theorem drop_getD {α : Type} (l : List α) (k j : Nat) (d : α) : (l.drop k).getD j d = l.getD (k + j) d := by simp [List.getD]

theorem flat_getD (rs : List (List ByteArray)) (b j : Nat) (hb : b < rs.length) (hj : j < (rs.getD b []).length) : rs.flatten.getD ((rs.take b).flatten.length + j) ByteArray.empty = (rs.getD b []).getD j ByteArray.empty := by
  have h := (flat_at hb (Nat.le_of_lt hj)).2
  rw [List.drop_eq_getElem_cons hj, List.cons_append] at h
  rw [getD_of_drop h]
  generalize rs.getD b [] = l at *
  simp [List.getD, hj]

theorem tail_first {F fs R : List ByteArray} {t : Nat} (h : F.drop t = fs ++ R) (j : Nat) (hj : j < fs.length) : t + j < F.length ∧ F.getD (t + j) ByteArray.empty = fs.getD j ByteArray.empty := by
  have hl := congrArg List.length h
  rw [List.length_drop, List.length_append] at hl
  refine ⟨by omega, ?_⟩
  rw [← drop_getD, h]
  simp [List.getD, List.getElem?_append_left hj]
theorem tail_rest {F fs R : List ByteArray} {t : Nat} (h : F.drop t = fs ++ R) (u : Nat) (hu : u < R.length) : t + fs.length + u < F.length ∧ F.getD (t + fs.length + u) ByteArray.empty = R.getD u ByteArray.empty := by
  have hl := congrArg List.length h
  rw [List.length_drop, List.length_append] at hl
  refine ⟨by omega, ?_⟩
  rw [Nat.add_assoc, ← drop_getD, h]
  simp [List.getD, List.getElem?_append_right]
theorem tail_len {F fs R : List ByteArray} {t : Nat} (h : F.drop t = fs ++ R) (ht : t ≤ F.length) : t + fs.length + R.length = F.length := by
  have hl := congrArg List.length h
  rw [List.length_drop, List.length_append] at hl
  omega

set_option maxHeartbeats 4000000 in
set_option maxRecDepth 100000 in
theorem walk6 (a : Option Addr) (n c : Nat) (bs : List (List ByteArray)) (p x : ByteArray) (w : World) (h : Blks w a n c bs) :
    Calls Try.prog 6 #[.slice a n c, .string p, .string x] w fun e w' => e = .returned (.bool true) ∧ Below w.heap.size w w' := by
  by_cases hps : 1048576 < p.size
  · go_enter Try.func6, Try.ntmps6
    go_wp2_with (go_at_call 21; refine (bytes21_w a n c bs p x _ h).mono ?_; rintro e w1 ⟨⟨r, rfl, _⟩, rfl⟩; cases r)
    all_goals (go_ret; exact ⟨rfl, Below.refl _ _⟩)
  by_cases hxs : 1048576 < x.size
  · go_enter Try.func6, Try.ntmps6
    go_wp2_with (go_at_call 21; refine (bytes21_w a n c bs p x _ h).mono ?_; rintro e w1 ⟨⟨r, rfl, _⟩, rfl⟩; cases r)
    all_goals (go_ret; exact ⟨rfl, Below.refl _ _⟩)
  go_enter Try.func6, Try.ntmps6
  go_wp2_with fail
  refine (bytes21_w a n c bs p x _ h).mono ?_
  rintro e w1 ⟨⟨r, rfl, _⟩, rfl⟩
  cases r
  · go_wp2
    go_ret
    exact ⟨rfl, Below.refl _ _⟩
  go_wp2_with fail
  refine (blocksSmall_w a n c bs _ _ h (by omega) (by omega)).mono ?_
  rintro e w2 ⟨⟨r, rfl, hsm⟩, rfl⟩
  cases r
  · go_wp2
    go_ret
    exact ⟨rfl, Below.refl _ _⟩
  obtain ⟨hn, hN⟩ := hsm rfl
  clear hsm
  go_wp2_with fail
  refine (isSet_w a n c bs _ _ h (by omega)).mono ?_
  rintro e w3 ⟨⟨r, rfl, hset⟩, rfl⟩
  cases r
  · clear hset hN
    go_wp2
    go_ret
    exact ⟨rfl, Below.refl _ _⟩
  have HSet := hide (And.intro (hset.1 rfl) hN)
  clear hset hN
  go_wp2_with fail
  refine (hasPrefix_w x p _).mono ?_
  rintro e w4 ⟨rfl, rfl⟩
  cases hxp : hp x p
  · go_wp2
    go_ret
    exact ⟨rfl, Below.refl _ _⟩
  clear hxp
  go_wp2_with fail
  refine (cloneBlocks_w a n c bs _ h (by omega) (fun b hb => by have := (HSet.out.1.1 b hb).2; simp at this; omega)).mono ?_
  rintro e w5 ⟨a5, rfl, ho5, hb5⟩
  have h5 := ho5.blks
  clear ho5 h
  have hN5 : bs.flatten.length ≤ 1048576 := by have := HSet.out.2; omega
  go_wp2_with fail
  refine (flatten_w a5 n n bs _ h5 (by omega) hN5).mono ?_
  rintro e w6 ⟨a6, rfl, ho6, hb6⟩
  have h6 := own_strs ho6
  clear ho6
  have hb56 : Below w4.heap.size w4 w6 := hb5.trans (hb6.mono hb5.size)
  replace h5 := h5.below hb6 (Nat.le_refl _)
  clear hb5 hb6
  generalize hNF : bs.flatten.length = N at *
  have HN := hide hNF
  clear hNF
  go_wp2
  go_loop [8] (fun i => ∃ t : Nat, i = .int .i64 t ∧ t ≤ N ∧ Hid (∀ j, j < t → ¬ ltB x (bs.flatten.getD j ByteArray.empty))) (fun i => N - (intOf i).toNat)
  case atStart => exact ⟨0, rfl, Nat.zero_le _, fun j hj => absurd hj (Nat.not_lt_zero _)⟩
  case round =>
    obtain ⟨t, rfl, htN, HT⟩ := hrel
    by_cases hstop : t < N ∧ ¬ ltB x (bs.flatten.getD t ByteArray.empty)
    · obtain ⟨hlt, hnx⟩ := hstop
      obtain ⟨b6, o6, rfl, _, g6⟩ := h6.at (by omega)
      have e6 := g6 t hlt
      have hbl : Op.bytesLess x.toList (bs.flatten.getD t ByteArray.empty).toList = false := by simpa [ltB] using hnx
      clear g6
      generalize hy : bs.flatten.getD t ByteArray.empty = y at e6 hbl hnx
      have HY := hide hy
      clear hy hnx
      go_wp2
      go_round
      case rel => exact ⟨t + 1, by go_num, by omega, fun j hj => by
        by_cases hjt : j = t
        · subst hjt; rw [HY.out]; simp [ltB, hbl]
        · exact HT.out j (by omega)⟩
      case measure => simp [intOf]; omega
    · have HS : Hid (Scan bs.flatten x t) := ⟨by rw [HN.out]; exact htN, HT.out, fun hlt => by
        rw [HN.out] at hlt
        by_cases hx : ltB x (bs.flatten.getD t ByteArray.empty)
        · exact hx
        · exact absurd ⟨hlt, hx⟩ hstop⟩
      clear HT hstop
      have hcall := zzAfter_w a5 n n bs p x w6 h5 (by omega) (fun b hb => by have := (HSet.out.1.1 b hb).2; simp at this; omega) (set_ordered HSet.out.1)
      have HCall := hide hcall
      clear hcall
      by_cases htlt : t < N
      · obtain ⟨b6, o6, rfl, hb6, g6⟩ := h6.at (by omega)
        have e6 := g6 t htlt
        have e7 := g6 (N - 1) (by omega)
        have hlx : ltB x (bs.flatten.getD t ByteArray.empty) := HS.out.yes (by rw [HN.out]; exact htlt)
        have hll : ¬ ltB (bs.flatten.getD (N - 1) ByteArray.empty) x := by have := last_not HSet.out.1.2 (by rw [HN.out]; exact htlt) hlx; rwa [HN.out] at this
        have hbl : Op.bytesLess x.toList (bs.flatten.getD t ByteArray.empty).toList = true := hlx
        have hbl2 : Op.bytesLess (bs.flatten.getD (N - 1) ByteArray.empty).toList x.toList = false := by simpa [ltB] using hll
        have HLL := hide hll
        clear g6 hlx hll
        generalize hy : bs.flatten.getD t ByteArray.empty = y at e6 hbl
        have HY := hide hy
        clear hy
        generalize hz : bs.flatten.getD (N - 1) ByteArray.empty = z at e7 hbl2
        clear hz
        obtain ⟨M, rfl⟩ : ∃ M, N = M + 1 := ⟨N - 1, by omega⟩
        rw [Nat.add_sub_cancel] at e7
        go_wp2_with fail
        refine HCall.out.mono ?_
        rintro e w7 ⟨⟨v1, v2, v3, rfl, hA⟩, hb7⟩
        obtain ⟨a3, n3, c3, a4, n4, c4, q, fs, rs, rfl, rfl, rfl, s3, s4, hP⟩ := hA.split
        have L := after_law HSet.out.1 hP HS.out
        obtain rfl : q = p := L.preB (by rw [HN.out, Nat.add_sub_cancel]; rintro (h0 | h0); omega; exact HLL.out h0)
        replace e6 : w7.cell? ⟨b6, o6 + t, none⟩ = some (.string y) := (hb7.cell (p := ⟨b6, o6 + t, none⟩) hb6).trans e6
        replace e7 : w7.cell? ⟨b6, o6 + M, none⟩ = some (.string z) := (hb7.cell (p := ⟨b6, o6 + M, none⟩) hb6).trans e7
        have hne : ((t : Int) == (M : Int) + 1) = false := by rw [beq_eq_false_iff_ne]; omega
        have hne0 : ((M : Int) + 1 == 0) = false := by rw [beq_eq_false_iff_ne]; omega
        have HLaw := hide L
        clear L hP hA
        go_wp2_with fail
        refine (hasPrefix_w y q _).mono ?_
        rintro e w8 ⟨rfl, rfl⟩
        have hbw : Below w4.heap.size w4 w8 := hb56.trans (hb7.mono hb56.size)
        cases hyq : hp y q
        · obtain ⟨rfl, rfl⟩ := HLaw.out.none (.inr (by rw [HY.out]; exact hyq))
          obtain rfl : n3 = 0 := s3.len.symm
          obtain rfl : n4 = 0 := s4.len.symm
          go_wp2
          go_ret
          exact ⟨rfl, hbw⟩
        obtain ⟨hpos, hqq, hdrop, k, hk1, hk2, hrs, hle, hfs⟩ := HLaw.out.some (by rw [HN.out, HY.out, hyq]; rintro (h0 | h0); omega; cases h0)
        replace h5 := h5.below hb7 (Nat.le_refl _)
        replace h6 := h6.below hb7 (Nat.le_refl _)
        have hnl := h5.len
        have hn4 : n4 = n - k := by rw [← s4.len, hrs, List.length_drop, hnl]
        have hkn : k ≤ n := by rw [← hnl]; exact hk2
        rw [s3.len] at hpos
        have HF := hide (And.intro hdrop (And.intro hrs (And.intro hle hfs)))
        clear hqq hdrop hrs hle hfs hyq hk2 HLaw HLL HCall HS hbl hbl2 e6 e7 HY hb7 hb56 hne hne0
        have hn30 : ((n3 : Int) == 0) = false := by rw [beq_eq_false_iff_ne]; omega
        obtain ⟨K, rfl⟩ : ∃ K, k = K + 1 := ⟨k - 1, by omega⟩
        obtain rfl : n = K + 1 + n4 := by omega
        clear hn4 hkn hk1 hnl
        go_wp2
        go_loopw [14] (fun i wr => ∃ j m : Nat, i = .int .i64 j ∧ j ≤ n4 ∧ wr = w8.drewN m) (fun i _ => n4 - (intOf i).toNat)
        case atStart => exact ⟨0, 0, rfl, Nat.zero_le _, rfl⟩
        case round =>
          obtain ⟨j, m, rfl, hj, rfl⟩ := hrel
          by_cases hlt : j < n4
          · obtain ⟨b4, o4, rfl, hb4, g4⟩ := s4.at (by omega)
            obtain ⟨a1, n1, c1, e1, g1⟩ := g4 j hlt
            obtain ⟨b5, o5, rfl, hb5, g5⟩ := h5.at (by omega)
            obtain ⟨a2, n2, c2, e2, g2⟩ := g5 (K + 1 + j) (by omega)
            have HE := hide (fun m => equal_yes g1 g2 (by rw [HF.out.2.1, drop_getD]) m)
            clear g4 g5 g1 g2
            have i1 : (0 : Int) ≤ (K : Int) + 1 + (j : Int) := by omega
            have i2 : (K : Int) + 1 + (j : Int) < (K : Int) + 1 + (n4 : Int) := by omega
            have i3 : ((K : Int) + 1 + (j : Int)).toNat = K + 1 + j := by omega
            have i4 : IntKind.i64.wrap ((K : Int) + 1 + (j : Int)) = (K : Int) + 1 + (j : Int) := wrap_small _ (by omega) (by omega)
            go_wp2
            go_quiet ((go_at_call 20; exact (HE.out _).mono fun _ _ hh => ⟨hh.1, more_drawn hh.2⟩))
            go_wp2
            go_roundw
            case rel => exact ⟨j + 1, _, by go_num, by omega, rfl⟩
            case measure => simp [intOf]; omega
          · obtain ⟨b5, o5, rfl, hb5, g5⟩ := h5.at (by omega)
            obtain ⟨aS, nS, cS, eS, gS⟩ := g5 K (by omega)
            clear g5
            have HF2 := HF.out.2.2
            rw [Nat.add_sub_cancel, gS.len, s3.len] at HF2
            obtain ⟨hle, hfs⟩ := HF2
            obtain ⟨off, rfl⟩ : ∃ off, nS = off + n3 := ⟨nS - n3, by omega⟩
            rw [Nat.add_sub_cancel] at hfs
            have HFS := hide hfs
            clear hfs hle
            obtain ⟨bS, oS, rfl, hbS, cellS⟩ := gS.at (by omega)
            obtain ⟨b3, o3, rfl, hb3, cell3⟩ := s3.at (by omega)
            have hSb : off + n3 ≤ 65536 := by
              have h1 := (HSet.out.1.1 (bs.getD K []) (getD_mem (by rw [h5.len]; omega))).2
              rw [gS.len] at h1
              simpa using h1
            have CS := hide cellS
            have C3 := hide cell3
            clear cellS cell3
            go_wp2
            go_loopw [17] (fun i wr => ∃ j m : Nat, i = .int .i64 j ∧ j ≤ n3 ∧ wr = w8.drewN m) (fun i _ => n3 - (intOf i).toNat)
            case atStart => exact ⟨0, m, rfl, Nat.zero_le _, rfl⟩
            case round =>
              clear hlt hj
              obtain ⟨j, m, rfl, hj, rfl⟩ := hrel
              by_cases hlt : j < n3
              · have e1 := C3.out j hlt
                have e2 := CS.out (off + j) (by omega)
                rw [show (bs.getD K []).getD (off + j) ByteArray.empty = fs.getD j ByteArray.empty by rw [HFS.out, drop_getD]] at e2
                generalize fs.getD j ByteArray.empty = y1 at e1 e2
                have i1 : (0 : Int) ≤ (off : Int) + (j : Int) := by omega
                have i2 : (off : Int) + (j : Int) < (off : Int) + (n3 : Int) := by omega
                have i3 : ((off : Int) + (j : Int)).toNat = off + j := by omega
                have i4 : IntKind.i64.wrap ((off : Int) + (j : Int)) = (off : Int) + (j : Int) := wrap_small _ (by omega) (by omega)
                go_wp2
                go_quiet (fail)
                go_wp2
                go_roundw
                case rel => exact ⟨j + 1, _, by go_num, by omega, rfl⟩
                case measure => simp [intOf]; omega
              · clear CS HFS hSb
                go_wp2
                go_loopw [18, 19] (fun s i wr => ∃ j m : Nat, i = .int .i64 j ∧ s = .int .i64 (t + j : Nat) ∧ j ≤ n3 ∧ wr = w8.drewN m) (fun _ i _ => n3 - (intOf i).toNat)
                case atStart => exact ⟨0, m, rfl, rfl, Nat.zero_le _, rfl⟩
                case round =>
                  clear hlt hj
                  obtain ⟨j, m, rfl, rfl, hj, rfl⟩ := hrel
                  by_cases hlt : j < n3
                  · have e1 := C3.out j hlt
                    obtain ⟨l1, l2⟩ := tail_first HF.out.1 j (by rw [s3.len]; exact hlt)
                    rw [HN.out] at l1
                    obtain ⟨b6', o6', e6, hb6', g6⟩ := h6.at (by omega)
                    cases e6
                    have e2 := g6 (t + j) l1
                    rw [l2] at e2
                    generalize fs.getD j ByteArray.empty = y1 at e1 e2
                    have i1 : (0 : Int) ≤ (t : Int) + (j : Int) := by omega
                    have i2 : (t : Int) + (j : Int) < (M : Int) + 1 := by omega
                    have i3 : ((t : Int) + (j : Int)).toNat = t + j := by omega
                    have i5 : decide ((M : Int) + 1 ≤ (t : Int) + (j : Int)) = false := decide_eq_false (by omega)
                    clear l2 g6
                    go_wp2
                    go_quiet (fail)
                    go_wp2
                    go_roundw
                    case rel => exact ⟨j + 1, _, by go_num, by go_num, by omega, rfl⟩
                    case measure => simp [intOf]; omega
                  · obtain rfl : j = n3 := by omega
                    have HTL := hide (tail_len HF.out.1 (by rw [HN.out]; exact htN))
                    rw [s3.len, HN.out] at HTL
                    clear C3 hlt hj
                    go_wp2
                    go_loopw [18, 20] (fun s i wr => ∃ b z m : Nat, i = .int .i64 b ∧ s = .int .i64 z ∧ b ≤ n4 ∧ Hid (z = t + j + (rs.take b).flatten.length) ∧ wr = w8.drewN m) (fun _ i _ => n4 - (intOf i).toNat)
                    case atStart => exact ⟨0, t + j, m, rfl, rfl, Nat.zero_le _, rfl, rfl⟩
                    case round =>
                      obtain ⟨b, z, m, rfl, rfl, hb, HZ, rfl⟩ := hrel
                      by_cases hlt : b < n4
                      · obtain ⟨b4, o4, rfl, hb4, g4⟩ := s4.at (by omega)
                        obtain ⟨a1, n1, c1, e1, g1⟩ := g4 b hlt
                        have hbr : b < rs.length := by rw [s4.len]; exact hlt
                        have hzn : z + n1 ≤ M + 1 := by
                          have h1 := flat_le2 rs b hbr
                          rw [g1.len] at h1
                          have h2 := HTL.out
                          have h3 := HZ.out
                          omega
                        clear g4
                        go_wp2
                        go_loopw [18, 21] (fun s i wr => ∃ u m : Nat, i = .int .i64 u ∧ s = .int .i64 (z + u : Nat) ∧ u ≤ n1 ∧ wr = w8.drewN m) (fun _ i _ => n1 - (intOf i).toNat)
                        case atStart => exact ⟨0, m, rfl, rfl, Nat.zero_le _, rfl⟩
                        case round =>
                          obtain ⟨u, m, rfl, rfl, hu, rfl⟩ := hrel
                          by_cases hlt2 : u < n1
                          · obtain ⟨b1, o1, rfl, hb1, c1'⟩ := g1.at (by omega)
                            have e2 := c1' u hlt2
                            have hub : u < (rs.getD b []).length := by rw [g1.len]; exact hlt2
                            have hR : (rs.take b).flatten.length + u < rs.flatten.length := by
                              have h1 := flat_le2 rs b hbr
                              omega
                            obtain ⟨l1, l2⟩ := tail_rest HF.out.1 _ hR
                            rw [flat_getD rs b u hbr hub, s3.len, ← Nat.add_assoc, ← HZ.out] at l2
                            obtain ⟨b6', o6', e6, hb6', g6⟩ := h6.at (by omega)
                            cases e6
                            have e3 := g6 (z + u) (by omega)
                            rw [l2] at e3
                            clear l1 l2 hR hub g6 c1'
                            generalize (rs.getD b []).getD u ByteArray.empty = y1 at e2 e3
                            have i1 : (0 : Int) ≤ (z : Int) + (u : Int) := by omega
                            have i2 : (z : Int) + (u : Int) < (M : Int) + 1 := by omega
                            have i3 : ((z : Int) + (u : Int)).toNat = z + u := by omega
                            have i5 : decide ((M : Int) + 1 ≤ (z : Int) + (u : Int)) = false := decide_eq_false (by omega)
                            go_wp2
                            go_quiet (fail)
                            go_wp2
                            go_roundw
                            case rel => exact ⟨u + 1, _, by go_num, by go_num, by omega, rfl⟩
                            case measure => simp [intOf]; omega
                          · obtain rfl : u = n1 := by omega
                            go_wp2
                            go_roundw
                            case rel => exact ⟨b + 1, z + u, m, by go_num, rfl, by omega, by show z + u = _; rw [flat_snoc rs b hbr, List.length_append, g1.len, HZ.out]; omega, rfl⟩
                            case measure => simp [intOf]; omega
                      · obtain rfl : b = n4 := by omega
                        have hz : z = M + 1 := by
                          have h1 := HZ.out
                          rw [List.take_of_length_le (by rw [s4.len]; exact Nat.le_refl _)] at h1
                          have h2 := HTL.out
                          omega
                        have hz2 : ((z : Int) == (M : Int) + 1) = true := by rw [beq_iff_eq]; omega
                        clear hz
                        go_wp2
                        go_ret
                        exact ⟨rfl, below_drewN hbw _⟩
      · obtain rfl : t = N := by omega
        clear htlt
        cases t with
        | zero =>
          go_wp2_with fail
          refine HCall.out.mono ?_
          rintro e w7 ⟨⟨v1, v2, v3, rfl, hA⟩, hb7⟩
          obtain ⟨a3, n3, c3, a4, n4, c4, q, fs, rs, rfl, rfl, rfl, s3, s4, hP⟩ := hA.split
          have L := after_law HSet.out.1 hP HS.out
          obtain rfl : q = ByteArray.empty := L.preA (.inl HN.out)
          obtain ⟨rfl, rfl⟩ := L.none (.inl HN.out.symm)
          obtain rfl : n3 = 0 := s3.len.symm
          obtain rfl : n4 = 0 := s4.len.symm
          have hbw : Below w4.heap.size w4 w7 := hb56.trans (hb7.mono hb56.size)
          clear L hP hA HCall HS
          go_wp2
          go_ret
          exact ⟨rfl, hbw⟩
        | succ M =>
          obtain ⟨b6, o6, rfl, hb6, g6⟩ := h6.at (by omega)
          have e7 := g6 M (by omega)
          clear g6
          generalize hz : bs.flatten.getD M ByteArray.empty = z at e7
          have HZ := hide hz
          clear hz
          have hne0 : ((M : Int) + 1 == 0) = false := by rw [beq_eq_false_iff_ne]; omega
          cases hzx : Op.bytesLess z.toList x.toList with
          | true =>
            go_wp2_with fail
            refine HCall.out.mono ?_
            rintro e w7 ⟨⟨v1, v2, v3, rfl, hA⟩, hb7⟩
            obtain ⟨a3, n3, c3, a4, n4, c4, q, fs, rs, rfl, rfl, rfl, s3, s4, hP⟩ := hA.split
            have L := after_law HSet.out.1 hP HS.out
            obtain rfl : q = ByteArray.empty := L.preA (.inr (by rw [HN.out, Nat.add_sub_cancel, HZ.out]; exact hzx))
            obtain ⟨rfl, rfl⟩ := L.none (.inl HN.out.symm)
            obtain rfl : n3 = 0 := s3.len.symm
            obtain rfl : n4 = 0 := s4.len.symm
            have hbw : Below w4.heap.size w4 w7 := hb56.trans (hb7.mono hb56.size)
            replace e7 : w7.cell? ⟨b6, o6 + M, none⟩ = some (.string z) := (hb7.cell (p := ⟨b6, o6 + M, none⟩) hb6).trans e7
            clear L hP hA HCall HS
            go_wp2
            go_ret
            exact ⟨rfl, hbw⟩
          | false =>
            go_wp2_with fail
            refine HCall.out.mono ?_
            rintro e w7 ⟨⟨v1, v2, v3, rfl, hA⟩, hb7⟩
            obtain ⟨a3, n3, c3, a4, n4, c4, q, fs, rs, rfl, rfl, rfl, s3, s4, hP⟩ := hA.split
            have L := after_law HSet.out.1 hP HS.out
            obtain rfl : q = p := L.preB (by
              rw [HN.out, Nat.add_sub_cancel, HZ.out]
              rintro (h0 | h0)
              · omega
              · rw [ltB, hzx] at h0; cases h0)
            obtain ⟨rfl, rfl⟩ := L.none (.inl HN.out.symm)
            obtain rfl : n3 = 0 := s3.len.symm
            obtain rfl : n4 = 0 := s4.len.symm
            have hbw : Below w4.heap.size w4 w7 := hb56.trans (hb7.mono hb56.size)
            replace e7 : w7.cell? ⟨b6, o6 + M, none⟩ = some (.string z) := (hb7.cell (p := ⟨b6, o6 + M, none⟩) hb6).trans e7
            clear L hP hA HCall HS
            go_wp2
            go_ret
            exact ⟨rfl, hbw⟩

end Go.Proofs.Qxb6605445a
