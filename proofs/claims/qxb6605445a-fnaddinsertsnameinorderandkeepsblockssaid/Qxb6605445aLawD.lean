/-
  The walk of FnAddInsertsNameInOrderAndKeepsBlocks.
-/
import Derived.Test.Qxb6605445aWkF
import Derived.Test.Qxb6605445aWkT
import Derived.Test.Qxb6605445aPlD
namespace Go.Proofs.Qxb6605445a
open Go.RowKit
set_option linter.unusedVariables false
set_option linter.unusedSimpArgs false

set_option maxHeartbeats 1000000 in
theorem bytes13_w (a : Option Addr) (n c : Nat) (bs : List (List ByteArray)) (p : ByteArray) (w : World) (h : Blks w a n c bs) :
    Calls Try.prog 13 #[.slice a n c, .string p] w fun e w' => RetIf e True ∧ w' = w := by
  have hc := h.cap
  have hle := h.le
  unfold maxLen at hc
  by_cases hbig : 1048576 < n
  · go_enter Try.func13, Try.ntmps13
    go_wp2
    go_ret
    exact ⟨RetIf.no, rfl⟩
  go_enter Try.func13, Try.ntmps13
  go_wp2
  go_loop [5, 6] (fun s i => ∃ (k z : Nat), k ≤ n ∧ i = .int .i64 k ∧ s = .int .i64 z ∧ z ≤ 1048576) (fun _ i => n - (intOf i).toNat)
  case atStart => exact ⟨0, n, Nat.zero_le _, rfl, by go_num, by omega⟩
  case round =>
    obtain ⟨k, z, hk, rfl, rfl, hz⟩ := hrel
    by_cases hlt : k < n
    · obtain ⟨b, off, rfl, hbl, g⟩ := h.at (by omega)
      obtain ⟨a1, n1, c1, g1, g2⟩ := g k hlt
      have hc1 := g2.cap
      have hl1 := g2.le
      unfold maxLen at hc1
      clear g
      by_cases hb1 : 1048576 < n1
      · go_wp2
        go_ret
        exact ⟨RetIf.no, rfl⟩
      by_cases hb2 : 1048576 < z + n1
      · go_wp2
        go_ret
        exact ⟨RetIf.no, rfl⟩
      go_wp2
      go_loop [5, 7] (fun s i => ∃ (t z : Nat), t ≤ n1 ∧ i = .int .i64 t ∧ s = .int .i64 z ∧ z ≤ 1048576) (fun _ i => n1 - (intOf i).toNat)
      case atStart => exact ⟨0, z + n1, Nat.zero_le _, rfl, by go_num, by omega⟩
      case round =>
        clear hz hb2
        obtain ⟨t, z, ht, rfl, rfl, hz⟩ := hrel
        by_cases hlt2 : t < n1
        · obtain ⟨b2, off2, rfl, hbl2, g3⟩ := g2.at (by omega)
          have e2 := g3 t hlt2
          clear g3
          generalize hx : (bs.getD k []).getD t ByteArray.empty = x at e2
          clear hx
          by_cases hb3 : 1048576 < x.size
          · go_wp2
            go_ret
            exact ⟨RetIf.no, rfl⟩
          by_cases hb4 : 1048576 < z + x.size
          · go_wp2
            go_ret
            exact ⟨RetIf.no, rfl⟩
          go_wp2
          go_round
          case rel => exact ⟨t + 1, z + x.size, by omega, by go_num, by go_num, by omega⟩
          case measure => simp [intOf]; omega
        · go_wp2
          go_round
          case rel => exact ⟨k + 1, z, by omega, by go_num, rfl, hz⟩
          case measure => simp [intOf]; omega
    · by_cases hsp : 1048576 < p.size
      · go_wp2
        go_ret
        exact ⟨RetIf.no, rfl⟩
      by_cases htp : 1048576 < z + p.size
      · go_wp2
        go_ret
        exact ⟨RetIf.no, rfl⟩
      go_wp2
      go_ret
      exact ⟨RetIf.yes trivial, rfl⟩

/-- A row outside R is as it was. -/
theorem Strs.keptR {w w' : World} {R : Nat → Prop} {a : Option Addr} {n c : Nat} {ss : List ByteArray} (h : Strs w a n c ss) (hk : Kept R w w') (hR : ∀ g, a.map (·.block) = some g → ¬ R g) : Strs w' a n c ss := by
  refine ⟨h.len, h.le, h.cap, ?_⟩
  rcases h.cells with h0 | ⟨b, off, rfl, hb, g⟩
  · exact .inl h0
  · refine .inr ⟨b, off, rfl, Nat.lt_of_lt_of_le hb hk.size, fun i hi => ?_⟩
    exact (World.cell?_of_block (w := w) (a := ⟨b, off + i, none⟩) (hk.block b hb (hR b rfl))).trans (g i hi)

/-- From the scan's end: where x stands in order, and that it is not there. -/
theorem scan_cut {F : List ByteArray} {x : ByteArray} {t : Nat} (hp : F.Pairwise ltB) (ht : t ≤ F.length) (h1 : ∀ j, j < t → ltB (F.getD j ByteArray.empty) x) (h2 : t < F.length → ¬ ltB (F.getD t ByteArray.empty) x ∧ F.getD t ByteArray.empty ≠ x) :
    Cut F.length (fun j => ltB (F.getD j ByteArray.empty) x) t ∧ x ∉ F := by
  have hno : ∀ j, t ≤ j → j < F.length → ltB x (F.getD j ByteArray.empty) := fun j hj hjl => by
    obtain ⟨h3, h4⟩ := h2 (by omega)
    have h5 : ltB x (F.getD t ByteArray.empty) := Classical.byContradiction fun h6 => h4 (ltB_total _ _ h3 h6)
    by_cases e : j = t
    · rw [e]; exact h5
    · exact ltB_trans _ _ _ h5 (pw_getD hp (by omega) hjl)
  refine ⟨⟨ht, h1, fun j hj hjl => ltB_asymm (hno j hj hjl)⟩, fun hx => ?_⟩
  obtain ⟨j, hj, e⟩ := mem_getD ByteArray.empty hx
  by_cases hjt : j < t
  · have := h1 j hjt; rw [e] at this; exact ltB_irrefl _ this
  · have := hno j (by omega) hj; rw [e] at this; exact ltB_irrefl _ this

set_option maxHeartbeats 4000000 in
set_option maxRecDepth 100000 in
theorem walk4 (a : Option Addr) (n c : Nat) (bs : List (List ByteArray)) (x : ByteArray) (w : World) (h : Blks w a n c bs) :
    Calls Try.prog 4 #[.slice a n c, .string x] w fun e w' => e = .returned (.bool true) ∧ Below w.heap.size w w' := by
  by_cases hxs : 1048576 < x.size
  · go_enter Try.func4, Try.ntmps4
    go_wp2_with (go_at_call 13; refine (bytes13_w a n c bs x _ h).mono ?_; rintro e w1 ⟨⟨r, rfl, _⟩, rfl⟩; cases r)
    all_goals (go_ret; exact ⟨rfl, Below.refl _ _⟩)
  go_enter Try.func4, Try.ntmps4
  go_wp2_with fail
  refine (bytes13_w a n c bs x _ h).mono ?_
  rintro e w1 ⟨⟨r, rfl, _⟩, rfl⟩
  cases r
  · go_wp2
    go_ret
    exact ⟨rfl, Below.refl _ _⟩
  go_wp2_with fail
  refine (blocksSmall_w a n c bs _ _ h (by omega) (by omega)).mono ?_
  rintro e w2 ⟨⟨r, rfl, hsm⟩, rfl⟩
  cases r
  · go_wp2
    go_ret
    exact ⟨rfl, Below.refl _ _⟩
  obtain ⟨hn, hN⟩ := hsm rfl
  clear hsm
  go_wp2_with fail
  refine (isSet_w a n c bs _ _ h (by omega)).mono ?_
  rintro e w3 ⟨⟨r, rfl, hset⟩, rfl⟩
  cases r
  · clear hset hN
    go_wp2
    go_ret
    exact ⟨rfl, Below.refl _ _⟩
  have HSet := hide (And.intro (show IsSet bs 512 from hset.1 rfl) hN)
  clear hset hN
  go_wp2_with fail
  refine (cloneBlocks_w a n c bs _ h (by omega) (fun b hb => by have := (HSet.out.1.1 b hb).2; omega)).mono ?_
  rintro e w1 ⟨a1, rfl, ho1, hb1⟩
  have HO1 := hide ho1
  have hbl1 := ho1.blks
  clear ho1 h
  go_wp2_with fail
  refine (flatten_w a1 n n bs _ hbl1 (by omega) (by have := HSet.out.2; omega)).mono ?_
  rintro e w2 ⟨aF, rfl, hoF, hb2⟩
  have HSF : Hid (w1.heap.size ≤ w2.heap.size) := hb2.size
  have hstF := own_strs hoF
  have HoF := hide hoF.lt
  have HL := hide hbl1.len
  have hbl2 := hbl1.below hb2 (Nat.le_refl _)
  obtain ⟨vs, hob⟩ := HO1.out.ob
  have hob2 : OB w2 (fun j => (w3.heap.size ≤ j ∧ j < w1.heap.size) ∨ w2.heap.size ≤ j) a1 n n bs vs := (hob.mono fun g hg hl => .inl ⟨hg, hl⟩).kept hb2.size fun g _ hg => hb2.block g hg
  have HOB := hide hob2
  have HB := hide (And.intro hb1 hb2)
  clear hoF hob hob2 HO1 hbl1 hb1 hb2
  obtain ⟨F, hF⟩ : ∃ F, F = bs.flatten := ⟨_, rfl⟩
  obtain ⟨N, hNF⟩ : ∃ N, N = bs.flatten.length := ⟨_, rfl⟩
  rw [← hNF, ← hF] at hstF
  rw [← hNF] at HoF ⊢
  have HF := hide hF
  have hN2 : N ≤ 65536 := by rw [hNF]; exact HSet.out.2
  have HLF : Hid (F.length = N) := hstF.len
  have HP : Hid (F.Pairwise ltB) := by rw [hF]; exact HSet.out.1.2
  clear hF hNF
  go_wp2
  go_loop [6] (fun i => ∃ t : Nat, i = .int .i64 t ∧ t ≤ N ∧ Hid (∀ j, j < t → ltB (F.getD j ByteArray.empty) x)) (fun i => N - (intOf i).toNat)
  case atStart => exact ⟨0, rfl, Nat.zero_le _, fun j hj => absurd hj (Nat.not_lt_zero _)⟩
  case round =>
    obtain ⟨t, rfl, ht, HT⟩ := hrel
    by_cases hlt : t < N
    · obtain ⟨bF, oF, rfl, hbF, cF⟩ := hstF.at (by omega)
      have e1 := cF t hlt
      generalize hy : F.getD t ByteArray.empty = y at e1
      have HY := hide hy
      clear hy cF
      cases hyx : Op.bytesLess y.toList x.toList with
      | true =>
        go_wp2
        go_round
        case rel =>
          refine ⟨t + 1, by go_num, by omega, fun j hj => ?_⟩
          by_cases e : j = t
          · rw [e, HY.out]; exact hyx
          · exact HT.out j (by omega)
        case measure => simp [intOf]; omega
      | false =>
        by_cases hey : y = x
        · subst hey
          go_wp2
          go_ret
          exact ⟨rfl, HB.out.1.trans (HB.out.2.mono HB.out.1.size)⟩
        · have hey2 : (y.toList == x.toList) = false := by rw [beq_toList, decide_eq_false hey]
          have HCut : Hid (Cut F.length (fun j => ltB (F.getD j ByteArray.empty) x) t ∧ x ∉ F) := scan_cut HP.out (by rw [HLF.out]; exact ht) HT.out (fun _ => ⟨by rw [HY.out]; unfold ltB; rw [hyx]; simp, by rw [HY.out]; exact hey⟩)
          clear HT
          go_wp2
          go_loop [7, 8] (fun hf i => ∃ (b : Bool) (k : Nat), hf = .bool b ∧ i = .int .i64 k ∧ k ≤ n ∧ Hid (b = true ↔ ∃ j, j < k ∧ (bs.getD j []).length = 512)) (fun _ i => n - (intOf i).toNat)
          case atStart => exact ⟨false, 0, rfl, rfl, Nat.zero_le _, ⟨fun h => (by cases h), fun ⟨j, hj, _⟩ => absurd hj (Nat.not_lt_zero _)⟩⟩
          case round =>
            obtain ⟨fb, k, rfl, rfl, hk, HFull⟩ := hrel
            by_cases hkn : k < n
            · obtain ⟨g, off, rfl, hgl, gc⟩ := hbl2.at (by omega)
              obtain ⟨a5, n5, c5, g1, g2⟩ := gc k hkn
              have HN5 := hide g2.len
              clear gc g2
              by_cases h5 : n5 = 512
              · subst h5
                go_wp2
                go_round
                case rel => exact ⟨true, k + 1, rfl, by go_num, by omega, ⟨fun _ => ⟨k, by omega, HN5.out⟩, fun _ => rfl⟩⟩
                case measure => first | (simp [intOf]; done) | (simp [intOf]; omega)
              · have h5' : ((n5 : Int) == 512) = false := by rw [beq_eq_false_iff_ne]; omega
                go_wp2
                go_round
                case rel =>
                  refine ⟨fb, k + 1, rfl, by go_num, by omega, HFull.out.trans ⟨fun ⟨j, hj, e⟩ => ⟨j, by omega, e⟩, fun ⟨j, hj, e⟩ => ⟨j, ?_, e⟩⟩⟩
                  have : j ≠ k := fun ejk => h5 (by rw [ejk, HN5.out] at e; exact e)
                  omega
                case measure => first | (simp [intOf]; done) | (simp [intOf]; omega)
            · obtain rfl : n = k := by omega
              go_wp2_with fail
              refine (zzAdd_w a1 n n bs vs x _ w2 HOB.out hn (fun b hb => (HSet.out.1.1 b hb).2) (set_ordered HSet.out.1) (fun j hj => .inr hj)).mono ?_
              rintro e w5 ⟨a5, n5, c5, bs', vs', rfl, hO, hP, hK⟩
              have hLaw := add_law HSet.out.1 hP (by rw [← HF.out]; exact HCut.out.2) (by rw [← HF.out]; exact HCut.out.1)
              have HLaw := hide hLaw
              have hbl5 := hO.blks
              have HL5 := hide hbl5.len
              have hn5 : n5 ≤ 65537 := by
                rw [← HL5.out]
                by_cases h0 : bs.length = 0
                · have := hLaw.zero h0; omega
                · have h1 := HL.out
                  rcases hLaw.len (by omega) with e | ⟨e, _⟩ <;> omega
              have hst5 := hstF.keptR hK (fun g hg => by
                have h1 := HoF.out g (by rw [ownBlock_slice]; exact hg)
                have h2 := HSF.out
                omega)
              have HBel : Hid (Below w3.heap.size w3 w5) := by
                refine HB.out.1.trans ((HB.out.2.mono HB.out.1.size).trans ⟨hK.os, hK.tape, hK.output, hK.size, fun j hj => hK.block j ?_ ?_⟩)
                · have := HB.out.1.size; have := HB.out.2.size; omega
                · have := HB.out.1.size; have := HB.out.2.size; omega
              have hG : bs'.flatten = ins F t x := by rw [HF.out]; exact hLaw.flat
              have hGl : bs'.flatten.length = N + 1 := by rw [hG, ins_len _ _ _ (by rw [HLF.out]; exact ht), HLF.out]
              have HG := hide hG
              have HGl := hide hGl
              clear hO hP hK hLaw hG hGl hstF HOB HoF hbl2
              go_wp2_with fail
              refine (isSet_w a5 n5 c5 bs' _ _ hbl5 (by omega)).mono ?_
              rintro e w6 ⟨⟨r, rfl, hset⟩, rfl⟩
              obtain rfl : r = true := hset.2 HLaw.out.set
              clear hset
              go_wp2_with fail
              refine (flatten_w a5 n5 c5 bs' _ hbl5 (by omega) (by rw [HGl.out]; omega)).mono ?_
              rintro e w7 ⟨aG, rfl, hoG, hb7⟩
              have hstG := own_strs hoG
              rw [HGl.out, HG.out] at hstG
              rw [HGl.out]
              have hst7 := hst5.below hb7 (Nat.le_refl _)
              have HBel7 : Hid (Below w3.heap.size w3 w7) := HBel.out.trans (hb7.mono HBel.out.size)
              clear hoG hb7 hst5 hbl5 HBel
              go_wp2
              go_loop [12] (fun i => ∃ j : Nat, i = .int .i64 j ∧ j ≤ N + 1) (fun i => N + 1 - (intOf i).toNat)
              case atStart => exact ⟨0, rfl, Nat.zero_le _⟩
              case round =>
                obtain ⟨j, rfl, hj⟩ := hrel
                by_cases hjl : j < N + 1
                · obtain ⟨bG, oG, rfl, hbG, cG⟩ := hstG.at (by omega)
                  have eG := cG j hjl
                  rw [ins_getD _ _ _ _ _ (by rw [HLF.out]; exact ht)] at eG
                  clear cG
                  rcases Nat.lt_trichotomy j t with hjt | hjt | hjt
                  · rw [if_pos hjt] at eG
                    obtain ⟨bF2, oF2, e', hbF2, cF⟩ := hst7.at (by omega)
                    cases e'
                    have eF := cF j (by omega)
                    generalize F.getD j ByteArray.empty = y at eG eF
                    clear cF
                    have hyy : (y.toList == y.toList) = true := by simp
                    go_wp2
                    go_round
                    case rel => exact ⟨j + 1, by go_num, by omega⟩
                    case measure => first | (simp [intOf]; done) | (simp [intOf]; omega)
                  · rw [if_neg (by omega), if_pos hjt] at eG
                    have hyy : (x.toList == x.toList) = true := by simp
                    subst hjt
                    go_wp2
                    go_round
                    case rel => exact ⟨j + 1, by go_num, by omega⟩
                    case measure => first | (simp [intOf]; done) | (simp [intOf]; omega)
                  · rw [if_neg (by omega), if_neg (by omega)] at eG
                    obtain ⟨m, rfl⟩ : ∃ m, j = m + 1 := ⟨j - 1, by omega⟩
                    rw [Nat.add_sub_cancel] at eG
                    obtain ⟨bF2, oF2, e', hbF2, cF⟩ := hst7.at (by omega)
                    cases e'
                    have eF := cF m (by omega)
                    generalize F.getD m ByteArray.empty = y at eG eF
                    clear cF
                    have hyy : (y.toList == y.toList) = true := by simp
                    have hjt2 : (t : Int) < (m : Int) + 1 := by omega
                    have hjt3 : ¬ ((m : Int) + 1 < (t : Int)) := by omega
                    go_wp2
                    go_round
                    case rel => exact ⟨m + 1 + 1, by go_num, by omega⟩
                    case measure => first | (simp [intOf]; done) | (simp [intOf]; omega)
                · by_cases hn0 : n = 0
                  · have h51 : n5 = 1 := by rw [← HL5.out]; exact HLaw.out.zero (by rw [HL.out]; exact hn0)
                    subst hn0
                    subst h51
                    go_wp2
                    go_ret
                    exact ⟨rfl, HBel7.out⟩
                  · have hn0' : ((n : Int) == 0) = false := by rw [beq_eq_false_iff_ne]; omega
                    rcases HLaw.out.len (by rw [HL.out]; omega) with e | ⟨e, b, hbm, hb512⟩
                    · rw [HL5.out, HL.out] at e
                      subst e
                      go_wp2
                      go_ret
                      exact ⟨rfl, HBel7.out⟩
                    · rw [HL5.out, HL.out] at e
                      subst e
                      have hfb : fb = true := by
                        obtain ⟨j, hj, e⟩ := mem_getD [] hbm
                        exact HFull.out.2 ⟨j, by rw [← HL.out]; exact hj, by rw [e]; exact hb512⟩
                      subst hfb
                      have hq : ((n : Int) + 1 == (n : Int)) = false := by rw [beq_eq_false_iff_ne]; omega
                      clear HFull
                      go_wp2
                      go_ret
                      exact ⟨rfl, HBel7.out⟩
    · obtain rfl : N = t := by omega
      have HCut : Hid (Cut F.length (fun j => ltB (F.getD j ByteArray.empty) x) N ∧ x ∉ F) := scan_cut HP.out (by rw [HLF.out]; exact ht) HT.out (fun h => absurd h (by rw [HLF.out]; omega))
      clear HT
      go_wp2
      go_loop [7, 8] (fun hf i => ∃ (b : Bool) (k : Nat), hf = .bool b ∧ i = .int .i64 k ∧ k ≤ n ∧ Hid (b = true ↔ ∃ j, j < k ∧ (bs.getD j []).length = 512)) (fun _ i => n - (intOf i).toNat)
      case atStart => exact ⟨false, 0, rfl, rfl, Nat.zero_le _, ⟨fun h => (by cases h), fun ⟨j, hj, _⟩ => absurd hj (Nat.not_lt_zero _)⟩⟩
      case round =>
        obtain ⟨fb, k, rfl, rfl, hk, HFull⟩ := hrel
        by_cases hkn : k < n
        · obtain ⟨g, off, rfl, hgl, gc⟩ := hbl2.at (by omega)
          obtain ⟨a5, n5, c5, g1, g2⟩ := gc k hkn
          have HN5 := hide g2.len
          clear gc g2
          by_cases h5 : n5 = 512
          · subst h5
            go_wp2
            go_round
            case rel => exact ⟨true, k + 1, rfl, by go_num, by omega, ⟨fun _ => ⟨k, by omega, HN5.out⟩, fun _ => rfl⟩⟩
            case measure => first | (simp [intOf]; done) | (simp [intOf]; omega)
          · have h5' : ((n5 : Int) == 512) = false := by rw [beq_eq_false_iff_ne]; omega
            go_wp2
            go_round
            case rel =>
              refine ⟨fb, k + 1, rfl, by go_num, by omega, HFull.out.trans ⟨fun ⟨j, hj, e⟩ => ⟨j, by omega, e⟩, fun ⟨j, hj, e⟩ => ⟨j, ?_, e⟩⟩⟩
              have : j ≠ k := fun ejk => h5 (by rw [ejk, HN5.out] at e; exact e)
              omega
            case measure => first | (simp [intOf]; done) | (simp [intOf]; omega)
        · obtain rfl : n = k := by omega
          go_wp2_with fail
          refine (zzAdd_w a1 n n bs vs x _ w2 HOB.out hn (fun b hb => (HSet.out.1.1 b hb).2) (set_ordered HSet.out.1) (fun j hj => .inr hj)).mono ?_
          rintro e w5 ⟨a5, n5, c5, bs', vs', rfl, hO, hP, hK⟩
          have hLaw := add_law HSet.out.1 hP (by rw [← HF.out]; exact HCut.out.2) (by rw [← HF.out]; exact HCut.out.1)
          have HLaw := hide hLaw
          have hbl5 := hO.blks
          have HL5 := hide hbl5.len
          have hn5 : n5 ≤ 65537 := by
            rw [← HL5.out]
            by_cases h0 : bs.length = 0
            · have := hLaw.zero h0; omega
            · have h1 := HL.out
              rcases hLaw.len (by omega) with e | ⟨e, _⟩ <;> omega
          have hst5 := hstF.keptR hK (fun g hg => by
            have h1 := HoF.out g (by rw [ownBlock_slice]; exact hg)
            have h2 := HSF.out
            omega)
          have HBel : Hid (Below w3.heap.size w3 w5) := by
            refine HB.out.1.trans ((HB.out.2.mono HB.out.1.size).trans ⟨hK.os, hK.tape, hK.output, hK.size, fun j hj => hK.block j ?_ ?_⟩)
            · have := HB.out.1.size; have := HB.out.2.size; omega
            · have := HB.out.1.size; have := HB.out.2.size; omega
          have hG : bs'.flatten = ins F N x := by rw [HF.out]; exact hLaw.flat
          have hGl : bs'.flatten.length = N + 1 := by rw [hG, ins_len _ _ _ (by rw [HLF.out]; exact ht), HLF.out]
          have HG := hide hG
          have HGl := hide hGl
          clear hO hP hK hLaw hG hGl hstF HOB HoF hbl2
          go_wp2_with fail
          refine (isSet_w a5 n5 c5 bs' _ _ hbl5 (by omega)).mono ?_
          rintro e w6 ⟨⟨r, rfl, hset⟩, rfl⟩
          obtain rfl : r = true := hset.2 HLaw.out.set
          clear hset
          go_wp2_with fail
          refine (flatten_w a5 n5 c5 bs' _ hbl5 (by omega) (by rw [HGl.out]; omega)).mono ?_
          rintro e w7 ⟨aG, rfl, hoG, hb7⟩
          have hstG := own_strs hoG
          rw [HGl.out, HG.out] at hstG
          rw [HGl.out]
          have hst7 := hst5.below hb7 (Nat.le_refl _)
          have HBel7 : Hid (Below w3.heap.size w3 w7) := HBel.out.trans (hb7.mono HBel.out.size)
          clear hoG hb7 hst5 hbl5 HBel
          go_wp2
          go_loop [12] (fun i => ∃ j : Nat, i = .int .i64 j ∧ j ≤ N + 1) (fun i => N + 1 - (intOf i).toNat)
          case atStart => exact ⟨0, rfl, Nat.zero_le _⟩
          case round =>
            obtain ⟨j, rfl, hj⟩ := hrel
            by_cases hjl : j < N + 1
            · obtain ⟨bG, oG, rfl, hbG, cG⟩ := hstG.at (by omega)
              have eG := cG j hjl
              rw [ins_getD _ _ _ _ _ (by rw [HLF.out]; exact ht)] at eG
              clear cG
              rcases Nat.lt_trichotomy j N with hjt | hjt | hjt
              · rw [if_pos hjt] at eG
                obtain ⟨bF2, oF2, e', hbF2, cF⟩ := hst7.at (by omega)
                cases e'
                have eF := cF j (by omega)
                generalize F.getD j ByteArray.empty = y at eG eF
                clear cF
                have hyy : (y.toList == y.toList) = true := by simp
                go_wp2
                go_round
                case rel => exact ⟨j + 1, by go_num, by omega⟩
                case measure => first | (simp [intOf]; done) | (simp [intOf]; omega)
              · rw [if_neg (by omega), if_pos hjt] at eG
                have hyy : (x.toList == x.toList) = true := by simp
                subst hjt
                go_wp2
                go_round
                case rel => exact ⟨j + 1, by go_num, by omega⟩
                case measure => first | (simp [intOf]; done) | (simp [intOf]; omega)
              · exact absurd hjt (by omega)
            · by_cases hn0 : n = 0
              · have h51 : n5 = 1 := by rw [← HL5.out]; exact HLaw.out.zero (by rw [HL.out]; exact hn0)
                subst hn0
                subst h51
                go_wp2
                go_ret
                exact ⟨rfl, HBel7.out⟩
              · have hn0' : ((n : Int) == 0) = false := by rw [beq_eq_false_iff_ne]; omega
                rcases HLaw.out.len (by rw [HL.out]; omega) with e | ⟨e, b, hbm, hb512⟩
                · rw [HL5.out, HL.out] at e
                  subst e
                  go_wp2
                  go_ret
                  exact ⟨rfl, HBel7.out⟩
                · rw [HL5.out, HL.out] at e
                  subst e
                  have hfb : fb = true := by
                    obtain ⟨j, hj, e⟩ := mem_getD [] hbm
                    exact HFull.out.2 ⟨j, by rw [← HL.out]; exact hj, by rw [e]; exact hb512⟩
                  subst hfb
                  have hq : ((n : Int) + 1 == (n : Int)) = false := by rw [beq_eq_false_iff_ne]; omega
                  clear HFull
                  go_wp2
                  go_ret
                  exact ⟨rfl, HBel7.out⟩

end Go.Proofs.Qxb6605445a
