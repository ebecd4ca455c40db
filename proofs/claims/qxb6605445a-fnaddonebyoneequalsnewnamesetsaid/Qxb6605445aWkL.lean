/-
  zzMergeSort.
-/
import Derived.Test.Qxb6605445aWkC
import Derived.Test.Qxb6605445aPlC
namespace Go.Proofs.Qxb6605445a
open Go.RowKit
set_option linter.unusedVariables false
set_option linter.unusedSimpArgs false

/-- The two rows of the merge sort: one is read, the other written. -/
structure Two (w wr : World) (n gs gd : Nat) (xs zs : List ByteArray) : Prop where
  src : wr.ownsRow w.heap.size 9 1 (.slice (some ⟨gs, 0, none⟩) n n) n (xs.map .string)
  dst : wr.ownsRow w.heap.size 9 1 (.slice (some ⟨gd, 0, none⟩) n n) n (zs.map .string)
  ne : gs ≠ gd
  below : Below w.heap.size w wr

theorem Two.lenS {w wr : World} {n gs gd : Nat} {xs zs : List ByteArray} (h : Two w wr n gs gd xs zs) : xs.length = n := by simpa using h.src.1
theorem Two.lenD {w wr : World} {n gs gd : Nat} {xs zs : List ByteArray} (h : Two w wr n gs gd xs zs) : zs.length = n := by simpa using h.dst.1
theorem Two.cellS {w wr : World} {n gs gd : Nat} {xs zs : List ByteArray} (h : Two w wr n gs gd xs zs) (k : Nat) (hk : k < n) : wr.cell? ⟨gs, k, none⟩ = some (.string (xs.getD k ByteArray.empty)) := by
  rw [h.src.cellAt k (by omega)]
  have := h.lenS
  simp [List.getD, this, hk]
theorem Two.cellD {w wr : World} {n gs gd : Nat} {xs zs : List ByteArray} (h : Two w wr n gs gd xs zs) (k : Nat) (hk : k < n) : wr.cell? ⟨gd, k, none⟩ = some (.string (zs.getD k ByteArray.empty)) := by
  rw [h.dst.cellAt k (by omega)]
  have := h.lenD
  simp [List.getD, this, hk]
theorem Two.frozenD {w wr : World} {n gs gd : Nat} {xs zs : List ByteArray} (h : Two w wr n gs gd xs zs) (k : Nat) : wr.frozen? ⟨gd, k, none⟩ = false := h.dst.frozenAt k
theorem Two.store {w wr : World} {n gs gd : Nat} {xs zs : List ByteArray} (h : Two w wr n gs gd xs zs) (k : Nat) (y : ByteArray) : Two w (wr.setCell ⟨gd, k, none⟩ (.string y)) n gs gd xs (zs.set k y) := by
  obtain ⟨h1, h2⟩ := h.dst.stored k (.string y)
  refine ⟨h.src.kept h2 (.inr (by simp [Value.ownBlock]; exact h.ne)), by rw [List.map_set]; exact h1, h.ne, h.below.setCell (p := ⟨gd, k, none⟩) (h.dst.lt gd rfl).1 _⟩
theorem Two.drewN {w wr : World} {n gs gd : Nat} {xs zs : List ByteArray} (h : Two w wr n gs gd xs zs) (q : Nat) : Two w (wr.drewN q) n gs gd xs zs := ⟨h.src, h.dst, h.ne, below_drewN h.below q⟩
theorem Two.swap {w wr : World} {n gs gd : Nat} {xs zs : List ByteArray} (h : Two w wr n gs gd xs zs) : Two w wr n gd gs zs xs := ⟨h.dst, h.src, h.ne.symm, h.below⟩

theorem min_cut (lo d k : Nat) : ∃ m : Nat, Hid (m = min (lo + d) k) ∧ (if (k : Int) < (lo : Int) + (d : Int) then (k : Int) else (lo : Int) + (d : Int)) = (m : Int) := by
  refine ⟨min (lo + d) k, rfl, ?_⟩
  split <;> omega
theorem min_cut2 (lo d k : Nat) : ∃ m : Nat, Hid (m = min (lo + 2 * d) k) ∧ (if (k : Int) < (lo : Int) + 2 * (d : Int) then (k : Int) else (lo : Int) + 2 * (d : Int)) = (m : Int) := by
  refine ⟨min (lo + 2 * d) k, rfl, ?_⟩
  split <;> omega

set_option maxHeartbeats 4000000 in
set_option maxRecDepth 100000 in
theorem mergeSort_w (a : Option Addr) (n c : Nat) (ss : List ByteArray) (w : World) (h : Strs w a n c ss) (hn : n ≤ 65536) :
    Calls Try.prog 11 #[.slice a n c] w fun e w' => (∃ a' ws, e = .returned (.slice a' n n) ∧ w'.ownsRow w.heap.size 9 1 (.slice a' n n) n (ws.map .string) ∧ ws.Perm ss ∧ Sorted ws) ∧ Below w.heap.size w w' := by
  obtain ⟨i0, hi, hz0, hz1, hz2⟩ := info_parts info9
  have HL := hide h.len
  go_enter Try.func11, Try.ntmps11
  go_wp2_with (at_make; refine wpList_make_full _ rfl _ _ 22 rfl w.heap.size 9 i0 (.string ByteArray.empty) 1 Try.underlying22 hi hz0 hz1 _ _ _ _ n rfl rfl (by omega) (by omega) ?b2 ?b3 (Nat.le_refl _) ?_)
  case b2 => (try rw [hz2]); omega
  case b3 => unfold maxLen; omega
  intro w0 hown0 hgrow0
  rw [toList_madeCells_one, ← filled_zero _ (ss.map .string)] at hown0
  go_wp2
  go_loopw [5] (fun i wr => ∃ k : Nat, k ≤ n ∧ i = .int .i64 k ∧ wr.ownsRow w.heap.size 9 1 (.slice (some ⟨w.heap.size, 0, none⟩) n n) n (filled (.string ByteArray.empty) (ss.map .string) n k) ∧ Below w.heap.size w wr) (fun i _ => n - (intOf i).toNat)
  case atStart => exact ⟨0, Nat.zero_le _, rfl, hown0, (Below.refl _ _).grown hgrow0 (Nat.le_refl _) (fun k h => by cases h)⟩
  case round =>
    obtain ⟨k, hk, rfl, hown, hbel⟩ := hrel
    clear hown0 hgrow0
    by_cases hlt : k < n
    · obtain ⟨b, off, rfl, hb, g⟩ := h.at (by omega)
      have e1 : wr.cell? ⟨b, off + k, none⟩ = some (.string (ss.getD k ByteArray.empty)) := (hbel.cell (p := ⟨b, off + k, none⟩) hb).trans (g k hlt)
      have e2 : wr.cell? ⟨w.heap.size, k, none⟩ = some (.string ByteArray.empty) := by rw [hown.cellAt k (by omega)]; exact filled_get _ _ _ _ hlt (by simpa using HL.out)
      have e3 : wr.frozen? ⟨w.heap.size, k, none⟩ = false := hown.frozenAt k
      generalize hx : ss.getD k ByteArray.empty = x at e1
      have HX := hide hx
      clear hx g
      go_wp2
      go_roundw
      case rel =>
        refine ⟨k + 1, by omega, by go_num, ?_, hbel.setCell (p := ⟨w.heap.size, k, none⟩) (Nat.le_refl _) _⟩
        have fs := filled_set (.string ByteArray.empty) (ss.map Value.string) n k hlt (by simpa using HL.out)
        rw [show (ss.map Value.string).getD k (.string ByteArray.empty) = Value.string x by rw [← HX.out]; simp [List.getD, HL.out, hlt]] at fs
        rw [← fs]
        exact (hown.stored k _).1
      case measure => simp [intOf]; omega
    · obtain rfl : k = n := by omega
      have e := filled_all (.string ByteArray.empty) (ss.map Value.string)
      rw [List.length_map, HL.out] at e
      rw [e] at hown
      have hsz : w.heap.size < wr.heap.size := (hown.lt _ rfl).2
      go_wp2_with (at_make; refine wpList_make_full _ rfl _ _ 22 rfl w.heap.size 9 i0 (.string ByteArray.empty) 1 Try.underlying22 hi hz0 hz1 _ _ _ _ k rfl rfl (by omega) (by omega) ?b2 ?b3 hbel.size ?_)
      case b2 => (try rw [hz2]); omega
      case b3 => unfold maxLen; omega
      intro w1 hown1 hgrow1
      rw [toList_madeCells_one] at hown1
      have T0 : Two w w1 k w.heap.size wr.heap.size ss (List.replicate k ByteArray.empty) :=
        ⟨hown.kept hgrow1 (.inr (by simp [Value.ownBlock])), by simpa using hown1, by omega, hbel.grown hgrow1 hbel.size (fun k h => by cases h)⟩
      clear hown hown1 hgrow1 hi hz0 hz1 hz2 hlt e
      generalize wr.heap.size = g1 at *
      go_wp2
      go_loopw [4, 6, 7] (fun s4 s6 s7 wr => ∃ (gs gd d : Nat) (xs zs : List ByteArray), s4 = .slice (some ⟨gs, 0, none⟩) k k ∧ s6 = .slice (some ⟨gd, 0, none⟩) k k ∧ s7 = .int .i64 d ∧ 1 ≤ d ∧ d ≤ 131072 ∧ Hid (Two w wr k gs gd xs zs) ∧ Hid (xs.Perm ss ∧ Runs d xs)) (fun _ _ s7 _ => k - (intOf s7).toNat)
      case atStart => exact ⟨_, _, 1, _, _, rfl, rfl, rfl, Nat.le_refl _, by omega, T0, ⟨List.Perm.refl _, runs_one _⟩⟩
      case round =>
        clear T0
        obtain ⟨gs, gd, d, xs, zs, rfl, rfl, rfl, hd1, hd2, HT, HP⟩ := hrel
        by_cases hdn : d < k
        · go_wp2
          go_loopw [8] (fun s8 wr => ∃ (q lo : Nat) (zs : List ByteArray), s8 = .int .i64 lo ∧ Hid (lo = q * (2 * d)) ∧ lo ≤ 200000 ∧ Hid (Two w wr k gs gd xs zs) ∧ Hid (Passing xs zs d q)) (fun s8 _ => k - (intOf s8).toNat)
          case atStart => exact ⟨0, 0, zs, rfl, (Nat.zero_mul _).symm, by omega, HT, passing_start xs zs d (by rw [HT.out.lenS, HT.out.lenD])⟩
          case round =>
            clear HT
            obtain ⟨q, lo, ys, rfl, HQ, hlo2, HT, HPa⟩ := hrel
            by_cases hlt : lo < k
            · obtain ⟨mid, HMid, hm⟩ := min_cut lo d k
              obtain ⟨hi, HHi, hh⟩ := min_cut2 lo d k
              have b1 : lo ≤ mid := by have := HMid.out; omega
              have b2 : mid ≤ hi := by have := HMid.out; have := HHi.out; omega
              have b3 : hi ≤ k := by have := HHi.out; omega
              have M0 : Hid (Merging xs ys ys lo mid hi lo mid lo) := merging_start (by rw [HT.out.lenS, HT.out.lenD]) b1 b2 (by rw [HT.out.lenS]; exact b3)
              go_wp2
              clear hm hh
              go_loopw [11, 12, 13] (fun s11 s12 s13 wr => ∃ (i j t : Nat) (vs : List ByteArray), s11 = .int .i64 i ∧ s12 = .int .i64 j ∧ s13 = .int .i64 t ∧ i ≤ mid ∧ j ≤ hi ∧ Hid (Two w wr k gs gd xs vs) ∧ Hid (Merging xs ys vs lo mid hi i j t)) (fun s11 s12 _ _ => (mid - (intOf s11).toNat) + (hi - (intOf s12).toNat))
              case atStart => exact ⟨lo, mid, lo, ys, rfl, rfl, rfl, b1, b2, HT, M0⟩
              case round =>
                clear HT M0
                obtain ⟨i, j, t, vs, rfl, rfl, rfl, hi1, hj1, HT, HM⟩ := hrel
                by_cases hboth : i < mid ∧ j < hi
                · obtain ⟨hi2, hj2⟩ := hboth
                  have ht2 : t < k := by have := HM.out.ends; omega
                  have e1 := HT.out.cellS i (by omega)
                  have e2 := HT.out.cellS j (by omega)
                  have e3 := HT.out.cellD t ht2
                  have e4 := HT.out.frozenD t
                  generalize hx : xs.getD i ByteArray.empty = x at e1
                  generalize hy : xs.getD j ByteArray.empty = y at e2
                  have HX := hide hx
                  have HY := hide hy
                  clear hx hy
                  cases hyx : Op.bytesLess y.toList x.toList with
                  | true =>
                    go_wp2
                    go_quiet (fail)
                    go_wp2
                    go_roundw
                    case rel =>
                      refine ⟨i, j + 1, t + 1, vs.set t y, rfl, by go_num, by go_num, hi1, hj2, (HT.out.drewN _).store t y, ?_⟩
                      have := HM.out.takeJ hj2 (.inr ⟨hi2, by rw [HX.out, HY.out]; exact hyx⟩)
                      rwa [HY.out] at this
                    case measure => simp [intOf]; omega
                  | false =>
                    go_wp2
                    go_quiet (fail)
                    go_wp2
                    go_roundw
                    case rel =>
                      refine ⟨i + 1, j, t + 1, vs.set t x, by go_num, rfl, by go_num, hi2, hj1, (HT.out.drewN _).store t x, ?_⟩
                      have := HM.out.takeI hi2 (.inr ⟨hj2, by rw [HX.out, HY.out]; exact hyx⟩)
                      rwa [HX.out] at this
                    case measure => simp [intOf]; omega
                · have hor : i = mid ∨ j = hi := by omega
                  by_cases hi0 : i < mid
                  all_goals
                    go_wp2
                    go_loopw [11, 13] (fun s11 s13 wr => ∃ (i t : Nat) (vs : List ByteArray), s11 = .int .i64 i ∧ s13 = .int .i64 t ∧ i ≤ mid ∧ (i = mid ∨ j = hi) ∧ Hid (Two w wr k gs gd xs vs) ∧ Hid (Merging xs ys vs lo mid hi i j t)) (fun s11 _ _ => (mid - (intOf s11).toNat))
                    case atStart => exact ⟨i, t, vs, rfl, rfl, hi1, hor, HT, HM⟩
                    case round =>
                      clear HT HM hor hi1 hboth hi0
                      obtain ⟨i, t, vs, rfl, rfl, hi1, hor, HT, HM⟩ := hrel
                      by_cases hi2 : i < mid
                      · have hjhi : j = hi := by omega
                        have ht2 : t < k := by have := HM.out.ends; omega
                        have e1 := HT.out.cellS i (by omega)
                        have e3 := HT.out.cellD t ht2
                        have e4 := HT.out.frozenD t
                        have HJ := hide hjhi
                        clear hjhi hor
                        generalize hx : xs.getD i ByteArray.empty = x at e1
                        have HX := hide hx
                        clear hx
                        go_wp2
                        go_roundw
                        case rel =>
                          refine ⟨i + 1, t + 1, vs.set t x, by go_num, by go_num, hi2, .inr HJ.out, HT.out.store t x, ?_⟩
                          have := HM.out.takeI hi2 (.inl HJ.out)
                          rwa [HX.out] at this
                        case measure => simp [intOf]; omega
                      · obtain rfl : i = mid := by omega
                        clear hor hi2 hi1
                        go_wp2
                        go_loopw [12, 13] (fun s12 s13 wr => ∃ (j t : Nat) (vs : List ByteArray), s12 = .int .i64 j ∧ s13 = .int .i64 t ∧ j ≤ hi ∧ Hid (Two w wr k gs gd xs vs) ∧ Hid (Merging xs ys vs lo i hi i j t)) (fun s12 _ _ => (hi - (intOf s12).toNat))
                        case atStart => exact ⟨j, t, vs, rfl, rfl, hj1, HT, HM⟩
                        case round =>
                          clear HT HM hj1
                          obtain ⟨j, t, vs, rfl, rfl, hj1, HT, HM⟩ := hrel
                          by_cases hj2 : j < hi
                          · have ht2 : t < k := by have := HM.out.ends; omega
                            have e1 := HT.out.cellS j (by omega)
                            have e3 := HT.out.cellD t ht2
                            have e4 := HT.out.frozenD t
                            generalize hx : xs.getD j ByteArray.empty = x at e1
                            have HX := hide hx
                            clear hx
                            go_wp2
                            go_roundw
                            case rel =>
                              refine ⟨j + 1, t + 1, vs.set t x, by go_num, by go_num, hj2, HT.out.store t x, ?_⟩
                              have := HM.out.takeJ hj2 (.inl rfl)
                              rwa [HX.out] at this
                            case measure => simp [intOf]; omega
                          · obtain rfl : j = hi := by omega
                            obtain ⟨htj, hseg⟩ := HM.out.done
                            have HPa2 : Hid (Passing xs vs d (q + 1)) := by
                              have hq := HQ.out
                              have hl := HT.out.lenS
                              refine HPa.out.step HP.out.2 HM.out.len (by rw [← hq, hl]; exact hlt) (by omega) (by rw [← hq]; exact HM.out.head) ?_
                              rw [← hq, hl, ← HMid.out, ← HHi.out]
                              exact hseg
                            have HQ2 : Hid (lo + 2 * d = (q + 1) * (2 * d)) := by show _ = _; rw [Nat.add_mul, Nat.one_mul, ← HQ.out]
                            clear htj hseg
                            go_wp2
                            go_roundw
                            case rel => exact ⟨q + 1, lo + 2 * d, vs, by go_num, HQ2, by omega, HT, HPa2⟩
                            case measure => simp [intOf]; omega
            · have HD := hide (HPa.out.done (by rw [← HQ.out, HT.out.lenS]; omega))
              go_wp2
              go_roundw
              case rel => exact ⟨gd, gs, d * 2, ys, xs, rfl, rfl, by go_num, by omega, by omega, HT.out.swap, ⟨HD.out.1.trans HP.out.1, by rw [Nat.mul_comm]; exact HD.out.2⟩⟩
              case measure => simp [intOf]; omega
        · have HS := hide (runs_all HP.out.2 (by rw [HT.out.lenS]; omega))
          go_wp2
          go_ret
          exact ⟨⟨_, xs, rfl, HT.out.src, HP.out.1, HS.out⟩, HT.out.below⟩

end Go.Proofs.Qxb6605445a
