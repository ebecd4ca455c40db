/-
  newNameSet, ZZNewNameSet.
-/
import Derived.Test.Qxb6605445aWkM
import Derived.Test.Qxb6605445aWkI
import Derived.Test.Qxb6605445aWkK
import Derived.Deep.RegionLaw
namespace Go.Proofs.Qxb6605445a
open Go.RowKit
set_option linter.unusedVariables false
set_option linter.unusedSimpArgs false

/-- append onto a row of the call's own, as one step of a region that draws its order. -/
theorem step_append_own {P : Program} {ops : Array Oper} {o : Oper} {a : Act} {w : World} {K : Act → World → Prop} {Q : Exit → Act → World → Prop} {E : Prop}
    (hg : o.guard = none) (s x : Operand) (t : TypeId) (ho : o.op = .call { callee := .builtin .append, args := #[s, x], argTypes := #[t, t] })
    (base : Nat) (e : TypeId) (i : TypeInfo) (z : Value) (size bytes : Nat) (ht : P.underlying t = some (.slice e)) (hi : P.info? e = some i) (hz : i.zero = some z)
    (hsize : i.size = size) (hby : i.bytes = bytes) (hzs : z.cells.size = size) (hsz : 0 < size)
    (v : Value) (n : Nat) (xs : List Value) (hs : a.eval s = v) (hown : w.ownsRow base e size v n xs)
    (ad : Addr) (m c : Nat) (news : List Value) (hx : a.eval x = .slice (some ad) m c) (hl : news.length = m * size) (hnews : ∀ j u, news[j]? = some u → w.cell? (ad.add j) = some u) (h1 : ∀ u ∈ news, u.oneCell' = true)
    (h63 : n + m ≤ maxLen) (hbytes : (n + m) * bytes ≤ 140737488355328) (hbase : base ≤ w.heap.size)
    (h : ∀ v' w', w'.ownsRow base e size v' (n + m) (xs ++ news) → w.grownBy w' v.ownBlock → K (a.put o.dst v') w') :
    if Region.wanted o (yielded ops a.tmps) = true then Oper.wp P o a w K Q else E := by
  have hw : Region.wanted o (yielded ops a.tmps) = true := by simp [Region.wanted, hg]
  rw [if_pos hw]
  exact wp_append_own w s x t ho base e i z size bytes ht hi hz hsize hby hzs hsz v n xs hs hown ad m c news hx hl hnews h1 h63 hbytes hbase fun v' w' h2 h3 _ => h v' w' h2 h3

theorem run_clip22 (b off n c l : Nat) (L : Int) (hL : L = (l : Int)) (hl : l ≤ c) (w : World) :
    (Instr.slice 22 (.slice (some ⟨b, off, none⟩) n c) none (some (.int .i64 L)) (some (.int .i64 L))).run Try.prog w = .ok (.slice (some ⟨b, off, none⟩) l l) w := by
  subst hL
  rw [run_slice_any w 22 (some ⟨b, off, none⟩) n c (by rw [elem22]; exact Try.underlying22) none (some (.int .i64 l)) (some (.int .i64 l))]
  have h1 : (0 : Int) ≤ (l : Int) := by omega
  have h2 : (l : Int) ≤ (c : Int) := by omega
  simp [Instr.sliceBounds, run_sliceBound, h1, h2, Result.andThen, elem22, size9, sliced, Addr.add]

/-- Chunk i of the names ws. -/
def chunk (ws : List ByteArray) (i : Nat) : List ByteArray := (ws.drop (512 * i)).take 512
def chunks (ws : List ByteArray) (k : Nat) : List (List ByteArray) := (List.range k).map (chunk ws)

theorem min512 (n : Nat) : ∃ m : Nat, Hid (m = min n 512) ∧ (if (512 : Int) < (n : Int) then (512 : Int) else (n : Int)) = (m : Int) := by
  refine ⟨min n 512, rfl, ?_⟩
  split <;> omega

theorem Strs.clip {w : World} {b off n c : Nat} {ss : List ByteArray} (h : Strs w (some ⟨b, off, none⟩) n c ss) (l : Nat) (hl : l ≤ n) (hn : 0 < n) : Strs w (some ⟨b, off, none⟩) l l (ss.take l) := by
  refine ⟨by rw [List.length_take, h.len]; omega, Nat.le_refl _, by have := h.cap; have := h.le; omega, ?_⟩
  obtain ⟨b', o', e, hb, g⟩ := h.at hn
  cases e
  refine .inr ⟨b, off, rfl, hb, fun i hi => ?_⟩
  rw [g i (by omega)]
  simp [List.getD, List.getElem?_take, hi]

/-- The set while it is made: k chunks are in, block S holds the list of blocks; w1: the world behind the sort. -/
structure Made (w1 wr : World) (ws : List ByteArray) (k : Nat) (ab : Option Addr) (cb : Nat) (vs : List Value) : Prop where
  cell : wr.cell? ⟨w1.heap.size, 0, none⟩ = some (.slice ab k cb)
  frozen : wr.frozen? ⟨w1.heap.size, 0, none⟩ = false
  own : wr.ownsRow (w1.heap.size + 1) 22 1 (.slice ab k cb) k vs
  each : ∀ i, i < k → ∃ a' n' c', vs.getD i nilS = .slice a' n' c' ∧ Strs w1 a' n' c' (chunk ws i)
  below : Below w1.heap.size w1 wr
  size : w1.heap.size < wr.heap.size

theorem chunk_drop (ws : List ByteArray) (k : Nat) : chunk ws k = (ws.drop (512 * k)).take 512 := rfl

theorem Made.step {w1 wr w2 : World} {ws : List ByteArray} {k : Nat} {ab : Option Addr} {cb : Nat} {vs : List Value} (h : Made w1 wr ws k ab cb vs) {a' : Option Addr} {c' b off e : Nat} {o : Obj}
    (hs : Strs w1 (some ⟨b, off, none⟩) e e (chunk ws k))
    (hown : w2.ownsRow (w1.heap.size + 1) 22 1 (.slice a' (k + 1) c') (k + 1) (vs ++ [.slice (some ⟨b, off, none⟩) e e])) (hg : (wr.alloc o).drew.grownBy w2 (Value.slice ab k cb).ownBlock) :
    Made w1 (w2.setCell ⟨w1.heap.size, 0, none⟩ (.slice a' (k + 1) c')) ws (k + 1) a' c' (vs ++ [.slice (some ⟨b, off, none⟩) e e]) ∧ w2.cell? ⟨w1.heap.size, 0, none⟩ = some (.slice ab k cb) ∧ w2.frozen? ⟨w1.heap.size, 0, none⟩ = false := by
  have hvl : vs.length = k := by simpa using h.own.1
  have hS : w1.heap.size < (wr.alloc o).drew.heap.size := by have := h.size; show _ < (wr.alloc o).heap.size; simp; omega
  have hne : some w1.heap.size ≠ (Value.slice ab k cb).ownBlock := fun e => by have := (h.own.lt _ e.symm).1; omega
  have hb2 : w2.heap[w1.heap.size]? = wr.heap[w1.heap.size]? := by
    rw [hg.block _ hS hne]
    exact Below.heap_alloc wr o _ h.size
  have hc2 : w2.cell? ⟨w1.heap.size, 0, none⟩ = some (.slice ab k cb) := (World.cell?_of_block (w := wr) (a := ⟨w1.heap.size, 0, none⟩) hb2).trans h.cell
  have hf2 : w2.frozen? ⟨w1.heap.size, 0, none⟩ = false := (World.frozen?_of_block (w := wr) (a := ⟨w1.heap.size, 0, none⟩) hb2).trans h.frozen
  have hbel : Below w1.heap.size w1 w2 := ((h.below.alloc h.below.size o).drew).grown hg (Nat.le_of_lt hS) (fun j hj => by have := (h.own.lt _ hj).1; omega)
  refine ⟨⟨World.cell?_setCell_same _ _ _ hc2, by rw [World.frozen?_setCell]; exact hf2, ownsRow_setCell_below hown (by show w1.heap.size < _; omega) _, fun i hi => ?_, hbel.setCell (p := ⟨w1.heap.size, 0, none⟩) (Nat.le_refl _) _, ?_⟩, hc2, hf2⟩
  · by_cases hik : i < k
    · obtain ⟨a1, n1, c1, h1, h2⟩ := h.each i hik
      exact ⟨a1, n1, c1, by rw [← h1]; simp [List.getD, List.getElem?_append_left (show i < vs.length by omega)], h2⟩
    · obtain rfl : i = k := by omega
      exact ⟨_, _, _, by simp [List.getD, ← hvl], hs⟩
  · rw [World.size_setCell]; have := hg.size; omega

theorem Made.blks {w1 wr : World} {ws : List ByteArray} {k : Nat} {ab : Option Addr} {cb : Nat} {vs : List Value} (h : Made w1 wr ws k ab cb vs) : Blks wr ab k cb (chunks ws k) := by
  have hvl : vs.length = k := by simpa using h.own.1
  have hlen : (chunks ws k).length = k := by simp [chunks]
  rcases h.own.2 with ⟨hv, hn⟩ | ⟨g, cap, cur, hv, hb, hg, hnc, hcm, hcs, ht⟩
  · simp only [Value.slice.injEq] at hv
    obtain ⟨rfl, rfl, rfl⟩ := hv
    exact ⟨hlen, Nat.le_refl _, Nat.zero_le _, .inl rfl⟩
  · simp only [Value.slice.injEq] at hv
    obtain ⟨rfl, _, rfl⟩ := hv
    refine ⟨hlen, hnc, hcm, .inr ⟨g, 0, rfl, (Array.getElem?_eq_some_iff.1 hg).1, fun i hi => ?_⟩⟩
    obtain ⟨a', n', c', h1, h2⟩ := h.each i hi
    refine ⟨a', n', c', ?_, ?_⟩
    · rw [Nat.zero_add, h.own.cellAt i (by omega), ← h1]
      simp [List.getD, hvl, hi]
    · have h3 := h2.below h.below (Nat.le_refl _)
      rw [show (chunks ws k).getD i [] = chunk ws i by simp [chunks, List.getD, hi]]
      exact h3

/-- What newNameSet hands back. -/
def NewIs (w' : World) (n : Nat) (ss : List ByteArray) (e : Ending) : Prop :=
  ∃ (S : Nat) (ab : Option Addr) (cb k : Nat), e = .returned (.pointer (some ⟨S, 0, none⟩)) ∧ w'.cell? ⟨S, 0, none⟩ = some (.slice ab k cb) ∧ Blks w' ab k cb (chunks (sortS ss) k) ∧ n ≤ 512 * k ∧ 512 * k < n + 512

/-- A slice value's length. -/
def lenOf : Value → Nat | .slice _ n _ => n | _ => 0

set_option maxHeartbeats 2000000 in
theorem newNameSet_w (a : Option Addr) (n c : Nat) (ss : List ByteArray) (w : World) (base : Nat) (h : Own w base a n c ss) (hn : n ≤ 65536) :
    Calls Try.prog 26 #[.slice a n c] w fun e w' => NewIs w' n ss e ∧ ∃ row, (∀ j, row = some j → (Value.slice a n c).ownBlock = some j) ∧ w.grownBy w' row := by
  obtain ⟨i0, hi, hz0, hz1, hz2⟩ := info_parts info22
  have hsort : Calls Try.prog 29 #[.slice a n c] w fun e w' => e = .returned (.tuple #[]) ∧ Strs w' a n c (sortS ss) ∧ ∃ row, (∀ j, row = some j → (Value.slice a n c).ownBlock = some j) ∧ w.grownBy w' row := by
    rcases h.own with ⟨rfl, hc⟩ | ⟨g, off, cur, rfl, h1, h2, h3⟩
    · have h0 : n = 0 := by have := h.strs.le; omega
      subst h0
      have hs : ss = [] := List.eq_nil_of_length_eq_zero h.strs.len
      refine (sort_empty none c w).mono fun e w' ⟨he, hw⟩ => ?_
      subst hw
      exact ⟨he, by rw [hs]; simpa [sortS, hs] using h.strs, none, (fun j hj => by cases hj), World.grownBy.refl _ _⟩
    · exact (sort_w g off n c cur ss w h2 h.strs (by omega)).mono fun e w' ⟨he, hs, hg⟩ => ⟨he, hs, some g, (fun j hj => by cases hj; rfl), hg⟩
  have HSort := hide hsort
  clear hsort h
  go_enter Try.func26, Try.ntmps26
  go_wp2_with fail
  refine HSort.out.mono ?_
  rintro e w1 ⟨rfl, hs, row, hrow, hgrow⟩
  have HG := hide (And.intro hrow hgrow)
  clear hrow hgrow HSort
  generalize hws : sortS ss = ws at hs
  have HW := hide hws
  clear hws
  have M0 : Hid (Made w1 (w1.alloc (.cells #[.slice none 0 0] 41)) ws 0 none 0 []) :=
    ⟨by simp, by simp, World.ownsRow_nil _ _ _ _, fun i hi => absurd hi (Nat.not_lt_zero _), (Below.refl _ _).alloc (Nat.le_refl _) _, by simp⟩
  go_wp2
  go_loopw [0] (fun s0 wr => ∃ (k : Nat) (an : Option Addr) (nn cn : Nat) (ab : Option Addr) (cb : Nat) (vs : List Value), s0 = .slice an nn cn ∧ Hid (Strs w1 an nn cn (ws.drop (512 * k))) ∧ Hid (nn = n - 512 * k) ∧ nn ≤ n ∧ cn ≤ 9223372036854775807 ∧ nn ≤ cn ∧ k ≤ 128 ∧ Hid (512 * k < n + 512) ∧ Hid (Made w1 wr ws k ab cb vs)) (fun s0 _ => lenOf s0)
  case atStart => exact ⟨0, a, n, c, none, 0, [], rfl, (show Strs w1 a n c (ws.drop (512 * 0)) by simpa using hs), rfl, Nat.le_refl _, by have := hs.cap; unfold maxLen at this; omega, hs.le, by omega, by show _ < _; omega, M0⟩
  case round =>
    clear M0 hs
    obtain ⟨k, an, nn, cn, ab, cb, vs, rfl, HS, HN, hnn, hcn, hnc, hk, HK, HM⟩ := hrel
    by_cases hlt : 0 < nn
    · have hsl := HS.out
      obtain ⟨b, off, rfl, hbl, _⟩ := hsl.at hlt
      obtain ⟨e, HE, hmin⟩ := min512 nn
      have hmin2 : min (nn : Int) 512 = (e : Int) := by have := HE.out; omega
      have he1 : e ≤ nn := by have := HE.out; omega
      have he0 : 0 < e := by have := HE.out; omega
      have hclip := fun wx => run_clip22 b off nn cn e (e : Int) rfl (by omega) wx
      have hcut := fun wx => run_cut22 (some ⟨b, off, none⟩) nn cn e (e : Int) rfl he1 wx
      have HC : Hid (Strs w1 (some ⟨b, off, none⟩) e e (chunk ws k)) := by
        have h1 := hsl.clip e he1 hlt
        rw [chunk_drop]
        have h2 : (ws.drop (512 * k)).take 512 = (ws.drop (512 * k)).take e := by
          have h3 := HE.out
          have h4 := hsl.len
          by_cases h5 : nn ≤ 512
          · rw [List.take_of_length_le (by omega), List.take_of_length_le (by omega)]
          · rw [show e = 512 by omega]
        rw [h2]
        exact h1
      have HD : Hid (Strs w1 (cutAddr (some ⟨b, off, none⟩) cn e) (nn - e) (cn - e) (ws.drop (512 * (k + 1)))) := by
        have h1 := hsl.drop e he1
        rw [List.drop_drop] at h1
        have h3 := HE.out
        have h4 := hsl.len
        have h5 : ws.drop (512 * k + e) = ws.drop (512 * (k + 1)) := by
          by_cases h6 : nn ≤ 512
          · rw [List.length_drop] at h4
            rw [List.drop_of_length_le (by omega), List.drop_of_length_le (by omega)]
          · rw [show 512 * k + e = 512 * (k + 1) by omega]
        rwa [h5] at h1
      have q1 := HM.out.cell
      have q2 := HM.out.frozen
      have q3 := HM.out.size
      have hk2 : (k : Int) + 1 ≤ 129 := by omega
      clear hsl
      go_wp2
      go_region_law (refine step_append_own rfl (.tmp 19) (.tmp 24) 25 rfl (w1.heap.size + 1) 22 i0 (.slice none 0 0) 1 24 Try.underlying25 hi hz0 hz1 hz2 rfl (by decide) (.slice ab k cb) k vs (by simp [Act.eval, Act.put]) (HM.out.own.alloc _).drew ⟨wr.heap.size, 0, none⟩ 1 1 [.slice (some ⟨b, off, none⟩) e e] (by simp [Act.eval, Act.put]) rfl (by intro j u hj; match j, hj with | 0, hj => simp at hj; subst hj; simp [Addr.add]) (by intro u hu; simp at hu; subst hu; rfl) (by unfold maxLen; omega) (by omega) (by simp; omega) ?_; intro v' w2 hown2 hgrow2; obtain ⟨a', c', rfl⟩ := own_form hown2; obtain ⟨r1, r2, r3⟩ := HM.out.step HC.out hown2 hgrow2; have HR := hide r1; clear r1 hown2 hgrow2)
      all_goals
        clear q1 q2 r2 r3 hclip
        go_wp2
        go_roundw
        case rel =>
          refine ⟨k + 1, _, nn - e, cn - e, a', c', vs ++ [.slice (some ⟨b, off, none⟩) e e], rfl, HD, ?_, by omega, by omega, by omega, ?_, ?_, HR⟩
          · show _ = _
            have h1 := HN.out
            have h2 := HE.out
            omega
          · have h1 := HN.out
            have h2 := HE.out
            have h3 := HK.out
            omega
          · show _ < _
            have h1 := HN.out
            omega
        case measure => simp [lenOf]; omega
    · have HFin : Hid (n ≤ 512 * k ∧ 512 * k < n + 512) := ⟨by have := HN.out; omega, HK.out⟩
      go_wp2
      go_ret
      refine ⟨⟨_, ab, cb, k, rfl, HM.out.cell, by rw [HW.out]; exact HM.out.blks, HFin.out.1, HFin.out.2⟩, row, HG.out.1, ?_⟩
      exact ⟨HM.out.below.os.trans HG.out.2.os, HM.out.below.tape.trans HG.out.2.tape, HM.out.below.output.trans HG.out.2.output, Nat.le_trans HG.out.2.size HM.out.below.size,
        fun j hj hne => (HM.out.below.block j (Nat.lt_of_lt_of_le hj HG.out.2.size)).trans (HG.out.2.block j hj hne)⟩

end Go.Proofs.Qxb6605445a
