/-
  nameSet.add, ZZAdd.
-/
import Derived.Test.Qxb6605445aWkR
import Derived.Test.Qxb6605445aLawA
import Derived.Test.Qxb6605445aWkK
import Derived.Deep.RegionWith
namespace Go.Proofs.Qxb6605445a
open Go.RowKit Go.Lib
set_option linter.unusedVariables false
set_option linter.unusedSimpArgs false

theorem cut_exists {q : Nat → Prop} : ∀ (n : Nat), (∀ i j, i ≤ j → j < n → q j → q i) → ∃ p, Cut n q p
  | 0, _ => ⟨0, Nat.le_refl _, fun i hi => absurd hi (Nat.not_lt_zero _), fun i _ hi => absurd hi (Nat.not_lt_zero _)⟩
  | n + 1, h => by
    obtain ⟨p, h1, h2, h3⟩ := cut_exists n fun i j hij hj => h i j hij (by omega)
    by_cases hp : p < n
    · refine ⟨p, by omega, h2, fun i hi hin => ?_⟩
      by_cases hi2 : i < n
      · exact h3 i hi hi2
      · obtain rfl : i = n := by omega
        exact fun hq => h3 p (Nat.le_refl _) hp (h p i (by omega) (by omega) hq)
    · obtain rfl : p = n := by omega
      by_cases hq : q p
      · exact ⟨p + 1, Nat.le_refl _, fun i hi => by by_cases e : i = p; exact e ▸ hq; exact h2 i (by omega), fun i hi hin => by omega⟩
      · exact ⟨p, by omega, h2, fun i hi hin => by
          have e : i = p := by omega
          rw [e]; exact hq⟩

theorem cut_unique {q : Nat → Prop} {n p p' : Nat} (h : Cut n q p) (h' : Cut n q p') : p = p' := by
  rcases Nat.lt_trichotomy p p' with h1 | h1 | h1
  · exact absurd (h'.yes p h1) (h.no p (Nat.le_refl _) (by have := h'.le; omega))
  · exact h1
  · exact absurd (h.yes p' h1) (h'.no p' (Nat.le_refl _) (by have := h.le; omega))

/-- What add makes of the blocks. -/
def AddP (bs : List (List ByteArray)) (x : ByteArray) (bs' : List (List ByteArray)) : Prop :=
  (bs = [] ∧ bs' = [[x]]) ∨
  ∃ p k i, Cut bs.length (fun j => ltB (lastOf (bs.getD j [])) x) p ∧ k = min p (bs.length - 1) ∧ k < bs.length ∧ Cut (bs.getD k []).length (fun j => ltB ((bs.getD k []).getD j ByteArray.empty) x) i ∧
    (((bs.getD k []).length + 1 ≤ 512 ∧ bs' = bs.set k (ins (bs.getD k []) i x)) ∨
     (512 < (bs.getD k []).length + 1 ∧ bs' = ins (bs.set k ((ins (bs.getD k []) i x).take (((bs.getD k []).length + 1) / 2))) (k + 1) ((ins (bs.getD k []) i x).drop (((bs.getD k []).length + 1) / 2))))

/-- Nothing but R's blocks has turned. -/
structure Kept (R : Nat → Prop) (w w' : World) : Prop where
  os : w'.os = w.os
  tape : w'.tape = w.tape
  output : w'.output = w.output
  size : w.heap.size ≤ w'.heap.size
  block : ∀ j, j < w.heap.size → ¬ R j → w'.heap[j]? = w.heap[j]?

theorem Kept.refl (R : Nat → Prop) (w : World) : Kept R w w := ⟨rfl, rfl, rfl, Nat.le_refl _, fun _ _ _ => rfl⟩
theorem Kept.trans {R : Nat → Prop} {a b c : World} (h : Kept R a b) (k : Kept R b c) : Kept R a c :=
  ⟨k.os.trans h.os, k.tape.trans h.tape, k.output.trans h.output, Nat.le_trans h.size k.size, fun j hj hn => (k.block j (Nat.lt_of_lt_of_le hj h.size) hn).trans (h.block j hj hn)⟩
theorem Kept.ofBelow {R : Nat → Prop} {a b : World} (h : Below a.heap.size a b) : Kept R a b := ⟨h.os, h.tape, h.output, h.size, fun j hj _ => h.block j hj⟩
theorem Kept.ofGrown {R : Nat → Prop} {a b : World} {row : Option Nat} (h : a.grownBy b row) (hr : ∀ g, row = some g → R g) : Kept R a b := ⟨h.os, h.tape, h.output, h.size, fun j hj hn => h.block j hj fun e => hn (hr j e.symm)⟩
theorem Kept.setCell {R : Nat → Prop} (w : World) (p : Addr) (u : Value) (hp : R p.block) : Kept R w (w.setCell p u) := ⟨rfl, rfl, rfl, by simp, fun j _ hn => Below.heap_setCell _ _ _ _ fun e => hn (e ▸ hp)⟩

def AddIs (w : World) (R : Nat → Prop) (S : Nat) (bs : List (List ByteArray)) (x : ByteArray) (e : Ending) (w' : World) : Prop :=
  e = .returned (.tuple #[]) ∧ ∃ a' n' c' bs' vs', w'.cell? ⟨S, 0, none⟩ = some (.slice a' n' c') ∧ OB w' R a' n' c' bs' vs' ∧ AddP bs x bs' ∧ Kept (fun j => R j ∨ j = S) w w'

theorem run_head22 (b off n c l : Nat) (L : Int) (hL : L = (l : Int)) (hl : l ≤ c) (w : World) :
    (Instr.slice 22 (.slice (some ⟨b, off, none⟩) n c) none (some (.int .i64 L)) none).run Try.prog w = .ok (.slice (some ⟨b, off, none⟩) l c) w := by
  subst hL
  rw [run_slice_any w 22 (some ⟨b, off, none⟩) n c (by rw [elem22]; exact Try.underlying22) none (some (.int .i64 l)) none]
  have h1 : (0 : Int) ≤ (l : Int) := by omega
  have h2 : (l : Int) ≤ (c : Int) := by omega
  simp [Instr.sliceBounds, run_sliceBound, h1, h2, Result.andThen, elem22, size9, sliced, Addr.add]

theorem run_cut22' (b off n c l : Nat) (L : Int) (hL : L = (l : Int)) (hl : l ≤ n) (hlc : l < c) (w : World) :
    (Instr.slice 22 (.slice (some ⟨b, off, none⟩) n c) (some (.int .i64 L)) none none).run Try.prog w = .ok (.slice (some ⟨b, off + l, none⟩) (n - l) (c - l)) w := by
  rw [run_cut22 (some ⟨b, off, none⟩) n c l L hL hl w]
  have : ¬ c = l := by omega
  simp [cutAddr, Addr.add, this]

theorem clip_w (a : Option Addr) (n c : Nat) (w : World) (hc : n ≤ c) (hc2 : c ≤ 9223372036854775807) (ha : ∃ b off, a = some ⟨b, off, none⟩) : Calls Try.prog 33 #[.slice a n c] w fun e w' => e = .returned (.slice a n n) ∧ w' = w := by
  obtain ⟨b, off, rfl⟩ := ha
  go_enter Try.func33, Try.ntmps33
  go_wp2
  go_ret
  exact ⟨rfl, rfl⟩

theorem add_empty {w : World} {R : Nat → Prop} {a : Option Addr} {c : Nat} {bs : List (List ByteArray)} {vs : List Value} {x : ByteArray} {S : Nat} (h : OB w R a 0 c bs vs) (hR : ∀ j, w.heap.size ≤ j → R j) (hRS : ¬ R S) (hS : w.cell? ⟨S, 0, none⟩ = some (.slice a 0 c)) (hSl : S < w.heap.size) (hL : bs.length = 0) :
    AddIs w R S bs x (.returned (.tuple #[])) (((w.setCell ⟨S, 0, none⟩ (.slice (some ⟨w.heap.size + 1, 0, none⟩) 1 1)).alloc (.cells #[.string x] 9)).alloc (.cells #[.slice (some ⟨w.heap.size, 0, none⟩) 1 1] 22)) := by
  have hb : bs = [] := List.eq_nil_of_length_eq_zero hL
  subst hb
  have one : (1 : Nat) ≤ maxLen := by unfold maxLen; omega
  refine ⟨rfl, some ⟨w.heap.size + 1, 0, none⟩, 1, 1, [[x]], [.slice (some ⟨w.heap.size, 0, none⟩) 1 1], ?_, ⟨?_, rfl, ?_, ?_, ?_⟩, .inl ⟨rfl, rfl⟩, ?_⟩
  · rw [World.cell?_alloc_lt _ _ _ (by simp; omega), World.cell?_alloc_lt _ _ _ (by simpa using hSl)]
    exact World.cell?_setCell_same _ _ _ hS
  · refine ⟨rfl, Nat.le_refl _, one, .inr ⟨w.heap.size + 1, 0, rfl, hR _ (by omega), by simp, fun j hj => ?_, fun j hj => ?_, fun o => ?_⟩⟩
    · obtain rfl : j = 0 := by omega
      rw [World.cell?_alloc_at _ _ _ _ (by simp)]; rfl
    · obtain rfl : j = 0 := by omega
      rw [World.cell?_alloc_at _ _ _ _ (by simp)]; rfl
    · rw [World.frozen?_alloc_at _ _ _ _ (by simp)]
  · intro j hj
    obtain rfl : j = 0 := by omega
    refine ⟨_, 1, 1, rfl, rfl, Nat.le_refl _, one, .inr ⟨w.heap.size, 0, rfl, hR _ (Nat.le_refl _), by simp; omega, fun j hj => ?_, fun j hj => ?_, fun o => ?_⟩⟩
    · obtain rfl : j = 0 := by omega
      rw [World.cell?_alloc_lt _ _ _ (by simp), World.cell?_alloc_at _ _ _ _ (by simp)]; rfl
    · obtain rfl : j = 0 := by omega
      rw [World.cell?_alloc_lt _ _ _ (by simp), World.cell?_alloc_at _ _ _ _ (by simp)]; rfl
    · rw [World.frozen?_alloc_past _ _ _ (by simp), World.frozen?_alloc_at _ _ _ _ (by simp)]
  · intro i j q hij hq e
    match i, j with
    | 0, 0 => exact hij rfl
    | 0, j + 1 => simp [List.getD, nilS, Value.ownBlock] at e
    | i + 1, j => simp [List.getD, nilS, Value.ownBlock] at hq
  · intro i q hq e
    match i with
    | 0 => simp [List.getD, Value.ownBlock] at hq e; omega
    | i + 1 => simp [List.getD, nilS, Value.ownBlock] at hq
  · refine ⟨rfl, rfl, rfl, by simp; omega, fun j hj hn => ?_⟩
    rw [Below.heap_alloc _ _ _ (by simp; omega), Below.heap_alloc _ _ _ (by simpa using hj), Below.heap_setCell _ _ _ _ (fun e => hn (.inr e))]

theorem clone_w (b off n c : Nat) (zs : List ByteArray) (w : World) (hz : zs.length = n) (hn : n ≤ 65536) (hc : ∀ j, j < n → w.cell? ⟨b, off + j, none⟩ = some (.string (zs.getD j ByteArray.empty))) :
    Calls Try.prog 35 #[.slice (some ⟨b, off, none⟩) n c] w fun e w' => ∃ ar cr, e = .returned (.slice ar n cr) ∧ w'.ownsRow w.heap.size 9 1 (.slice ar n cr) n (zs.map .string) ∧ Below w.heap.size w w' := by
  refine (Any.slices_Clone_string laysNm216 b off n c zs w (by omega) (by omega) (fun j hj => hc j (by omega))).mono ?_
  rintro e w' ⟨v', he, hown, _, hbel⟩
  rw [List.take_of_length_le (by omega)] at hown
  obtain ⟨a', c', rfl⟩ := own_form hown
  exact ⟨a', c', he, hown, hbel⟩

/-- The right half is put behind the left one. -/
theorem ins_step {w3 w4 : World} {R : Nat → Prop} {a : Option Addr} {n c : Nat} {bs : List (List ByteArray)} {vs : List Value} {S : Nat} (h : OB w3 R a n c bs vs) (hR : ∀ j, w3.heap.size ≤ j → R j) (hRS : ¬ R S) (hn : n ≤ 65536) (k : Nat) (hk : k < n)
    (hS : w3.cell? ⟨S, 0, none⟩ = some (.slice a n c)) (hSf : w3.frozen? ⟨S, 0, none⟩ = false) {ar : Option Addr} {nr cr : Nat} {rs : List ByteArray} (hown : w4.ownsRow w3.heap.size 9 1 (.slice ar nr cr) nr (rs.map .string)) (hbel : Below w3.heap.size w3 w4) (K : Int) (hK : K = (k : Int) + 1) :
    Calls Try.prog 34 #[.slice a n c, .int .i64 K, .slice (some ⟨w4.heap.size, 0, none⟩) 1 1] (w4.alloc (.cells #[.slice ar nr cr] 22)) fun e w5 =>
      ∃ a5 c5, e = .returned (.slice a5 (n + 1) c5) ∧ w5.cell? ⟨S, 0, none⟩ = some (.slice a n c) ∧ w5.frozen? ⟨S, 0, none⟩ = false ∧ Hid (OB w5 R a5 (n + 1) c5 (ins bs (k + 1) rs) (ins vs (k + 1) (.slice ar nr cr)) ∧ Kept (fun j => R j ∨ j = S) w3 w5) := by
  have hSl : S < w3.heap.size := block_lt_of_cell hS
  have hsz := hbel.size
  have hK' : K = ((k + 1 : Nat) : Int) := by omega
  rw [hK']
  have hb4 : Below w3.heap.size w3 (w4.alloc (.cells #[.slice ar nr cr] 22)) := hbel.alloc hsz _
  have h4 : OB (w4.alloc (.cells #[.slice ar nr cr] 22)) R a n c bs vs := h.kept hb4.size fun q _ hq => hb4.block q hq
  have hr4 : Room (w4.alloc (.cells #[.slice ar nr cr] 22)) R ar nr cr (rs.map .string) := by
    have h1 : Room w4 R ar nr cr (rs.map .string) := (Room.ofOwns hown).mono fun q _ _ hq => hR q hq
    exact h1.kept (by simp) fun q hq => Below.heap_alloc _ _ _ (h1.lt q hq).2
  have h1s : ∀ u ∈ vs, u.oneCell' = true := fun u hu => by
    obtain ⟨j, hj, rfl⟩ := mem_getD nilS hu
    obtain ⟨a', n', c', e, _⟩ := h.each j (by rw [← h.row.len]; exact hj)
    rw [e]; rfl
  refine (insert34_w a n c vs R _ h4.row (by omega) (by omega) (k + 1) (by omega) (.slice ar nr cr) h1s rfl w4.heap.size 1 (by simp) (fun e => by have := (h.row.lt _ e).2; omega) (fun o => by simp) (fun j hj => hR j (by simp at hj; omega))).mono ?_
  rintro e w5 hI
  obtain ⟨a5, c5, he, hO, hg⟩ := h.more (k := k + 1) (by omega) hb4.size (fun q hq => hb4.block q hq) hr4 (fun q hq => (hown.lt q hq).1) hI
  have hkeep : Kept (fun j => R j ∨ j = S) w3 w5 := (Kept.ofBelow hb4).trans (Kept.ofGrown hg fun q hq => .inl (h.row.lt q (by rw [← ownBlock_slice a n c]; exact hq)).1)
  have hbS : w5.heap[S]? = w3.heap[S]? := (hg.block S (by simp; omega) (fun e => hRS (h.row.lt S (by rw [← ownBlock_slice a n c]; exact e.symm)).1)).trans (hb4.block S hSl)
  exact ⟨a5, c5, he, (World.cell?_of_block (w := w3) (a := ⟨S, 0, none⟩) hbS).trans hS, (World.frozen?_of_block (w := w3) (a := ⟨S, 0, none⟩) hbS).trans hSf, hO, hkeep⟩

set_option maxHeartbeats 2000000 in
theorem add_w (a : Option Addr) (n c : Nat) (bs : List (List ByteArray)) (vs : List Value) (x : ByteArray) (S : Nat) (R : Nat → Prop) (w : World) (hS : w.cell? ⟨S, 0, none⟩ = some (.slice a n c)) (hSf : w.frozen? ⟨S, 0, none⟩ = false) (hRS : ¬ R S)
    (h : OB w R a n c bs vs) (hn : n ≤ 65536) (hb : ∀ b ∈ bs, b.length ≤ 512) (ho : Ordered bs) (hR : ∀ j, w.heap.size ≤ j → R j) :
    Calls Try.prog 27 #[.pointer (some ⟨S, 0, none⟩), .string x] w fun e w' => AddIs w R S bs x e w' := by
  have hSl : S < w.heap.size := block_lt_of_cell hS
  have HR := hide hR
  have HO := hide ho
  have HB := hide hb
  have HL := hide h.len
  have H := hide h
  have HRS := hide hRS
  clear hR ho hb h hRS
  by_cases hn0 : n = 0
  · subst hn0
    go_enter Try.func27, Try.ntmps27
    go_wp2
    refine bodyPost_ret (v := .tuple #[]) (by simp [results, Try.results27, go_sem]) rfl ?_
    exact add_empty H.out HR.out HRS.out hS hSl HL.out
  · have hbl := H.out.blks
    obtain ⟨p, hcut⟩ := cut_exists (q := fun i => ltB (lastOf (bs.getD i [])) x) n (by rw [← HL.out]; exact HO.out.lasts x)
    have hblock : ∀ wx, Blks wx a n c bs → wx.cell? ⟨S, 0, none⟩ = some (.slice a n c) → Calls Try.prog 30 #[.pointer (some ⟨S, 0, none⟩), .string x] wx fun e w' => e = .returned (.int .i64 p) ∧ w' = wx := fun wx h1 h2 =>
      (block_w a n c bs x S wx h2 h1 (by omega) HO.out.ne (by rw [← HL.out]; exact HO.out.lasts x)).mono fun e w' ⟨⟨p', he, hc⟩, hw⟩ => ⟨by rw [he, cut_unique hc hcut], hw⟩
    have hpn := hcut.le
    obtain ⟨k, HK, hmin⟩ : ∃ k : Nat, Hid (k = min p (n - 1)) ∧ (if (n : Int) - 1 < (p : Int) then (n : Int) - 1 else (p : Int)) = (k : Int) := ⟨min p (n - 1), rfl, by split <;> omega⟩
    have hmin2 : min (p : Int) ((n : Int) - 1) = (k : Int) := by have := HK.out; omega
    have hkn : k < n := by have := HK.out; omega
    have HC := hide hcut
    have HBl := hide hblock
    have hw1 : IntKind.i64.wrap ((n : Int) - 1) = (n : Int) - 1 := by rw [IntKind.wrap_i64]; omega
    have hcap := hbl.cap
    have hle := hbl.le
    unfold maxLen at hcap
    obtain ⟨g, off, rfl, hgl, hjunk⟩ := hbl.at (by omega)
    clear hjunk
    obtain ⟨a1, n1, c1, hvk0, r1⟩ := H.out.each k hkn
    have HVK := hide hvk0
    have g1 := (H.out.bare hkn hvk0 (World.grownBy.refl w _)).1
    have g2 := r1.strs
    have HBk := hide hbl
    clear hvk0 r1 hcut hblock hbl
    go_enter Try.func27, Try.ntmps27
    go_wp2
    go_quiet (first | (go_at_call 30; refine Calls.quiet_of_same ((HBl.out _ ?_ ?_)); exact HBk.out.drewN _; simpa using hS))
    go_wp2_with fail
    have hbk : bs.getD k [] ∈ bs := getD_mem (by rw [HL.out]; exact hkn)
    have hn1 : n1 ≤ 512 := by rw [← g2.len]; exact HB.out _ hbk
    have hn1' : 0 < n1 := by rw [← g2.len]; exact HO.out.ne _ hbk
    refine (search_w a1 n1 c1 _ x _ (g2.drewN nq) (by omega) (by rw [← g2.len]; exact HO.out.names x k)).mono ?_
    rintro e w' ⟨⟨i, f, rfl, hf, hci⟩, rfl⟩
    obtain ⟨W, hW⟩ : ∃ W, W = w.drewN nq := ⟨_, rfl⟩
    rw [← hW]
    have HKp : Hid (Kept (fun j => R j ∨ j = S) w W) := by rw [hW]; exact ⟨rfl, rfl, rfl, Nat.le_refl _, fun j _ _ => rfl⟩
    have hSW : W.cell? ⟨S, 0, none⟩ = some (.slice (some ⟨g, off, none⟩) n c) := by rw [hW]; simpa using hS
    have HOW : Hid (OB W R (some ⟨g, off, none⟩) n c bs vs) := by rw [hW]; exact H.out.kept (by simp) (fun j _ _ => by simp)
    have HRW : Hid (∀ j, W.heap.size ≤ j → R j) := by rw [hW]; exact HR.out
    have hfW : W.frozen? ⟨S, 0, none⟩ = false := by rw [hW]; simpa using hSf
    have hSlW : S < W.heap.size := by rw [hW]; simpa using hSl
    have hgW : g < W.heap.size := by rw [hW]; simpa using hgl
    have HI := hide hci
    have hi := hci.le
    have HN := hide g2.len
    clear hf hci H HR hSf hSl hgl g1 g2 hS HBk HBl hW
    have hvk : vs.getD k nilS = .slice a1 n1 c1 := HVK.out
    have hW1 : OB (W.alloc (.cells #[.string x] 9)) R (some ⟨g, off, none⟩) n c bs vs := HOW.out.kept (by simp) fun j _ hj => Below.heap_alloc _ _ _ hj
    obtain ⟨a1', n1', c1', hv1, hroom1⟩ := hW1.each k hkn
    rw [hvk] at hv1
    simp only [Value.slice.injEq] at hv1
    obtain ⟨rfl, rfl, rfl⟩ := hv1
    have HW1 := hide hW1
    have HRm := hide hroom1
    clear hroom1 hW1 hvk
    go_wp2_with fail
    have hne : a1.map (·.block) ≠ some W.heap.size := fun e => by
      obtain ⟨a2, n2, c2, e2, r2⟩ := HOW.out.each k hkn
      rw [HVK.out] at e2
      cases e2
      have := (r2.lt _ e).2
      omega
    refine (insert32_w a1 n1 c1 _ R _ HRm.out (by omega) i hi (.string x) (one_string _) rfl W.heap.size 1 (by simp) hne (fun o => by simp) (fun j hj => HRW.out j (by simp at hj; omega))).mono ?_
    rintro e w2 ⟨a2, c2, rfl, hroom2, hgr, hblk⟩
    rw [ins_map] at hroom2
    obtain ⟨q1, q2⟩ := HW1.out.bare hkn HVK.out hgr
    have hbS : w2.heap[S]? = W.heap[S]? := (hgr.block S (by simp; omega) (fun e => HRS.out (HRm.out.lt S (by rw [← ownBlock_slice a1 n1 c1]; exact e.symm)).1)).trans (Below.heap_alloc _ _ _ hSlW)
    have q3 : w2.cell? ⟨S, 0, none⟩ = some (.slice (some ⟨g, off, none⟩) n c) := (World.cell?_of_block (w := W) (a := ⟨S, 0, none⟩) hbS).trans hSW
    have q4 : w2.frozen? ⟨S, 0, none⟩ = false := (World.frozen?_of_block (w := W) (a := ⟨S, 0, none⟩) hbS).trans hfW
    have hSg : S ≠ g := fun e => HRS.out (e ▸ (HOW.out.row.lt g rfl).1)
    have HKp2 : Hid (Kept (fun j => R j ∨ j = S) w w2) := HKp.out.trans ((Kept.ofBelow ((Below.refl _ _).alloc (Nat.le_refl _) _)).trans (Kept.ofGrown hgr fun j e => .inl (HRm.out.lt j (by rw [← ownBlock_slice a1 n1 c1]; exact e)).1))
    have HP : Hid (∀ {aL : Option Addr} {nL cL : Nat} {ssL : List ByteArray}, Room w2 R aL nL cL (ssL.map .string) → (∀ q, (Value.slice aL nL cL).ownBlock = some q → (Value.slice a1 n1 c1).ownBlock = some q ∨ (W.alloc (.cells #[.string x] 9)).heap.size ≤ q) →
        OB (w2.setCell ⟨g, off + k, none⟩ (.slice aL nL cL)) R (some ⟨g, off, none⟩) n c (bs.set k ssL) (vs.set k (.slice aL nL cL))) := fun h1 h2 => HW1.out.put hkn HVK.out hgr h1 h2
    have HR2 := hide hroom2
    have HW2 : Hid (W.heap.size ≤ w2.heap.size) := by have := hgr.size; simp at this; show _ ≤ _; omega
    have HBk2 := hide hblk
    have hkp : k < bs.length := by rw [HL.out]; exact hkn
    have HCb : Hid (Cut bs.length (fun i => ltB (lastOf (bs.getD i [])) x) p ∧ k = min p (bs.length - 1) ∧ Cut (bs.getD k []).length (fun i => ltB ((bs.getD k []).getD i ByteArray.empty) x) i) := by
      refine ⟨?_, ?_, ?_⟩
      · rw [HL.out]; exact HC.out
      · rw [HL.out]; exact HK.out
      · rw [HN.out]; exact HI.out
    clear hroom2 hblk hgr hbS hne hSW hfW hmin hmin2
    by_cases hsm : n1 + 1 ≤ 512
    · have hsm2 : (n1 : Int) + 1 ≤ 512 := by omega
      go_wp2
      refine bodyPost_ret (v := .tuple #[]) (by simp [results, Try.results27, go_sem]) rfl ⟨rfl, _, n, c, bs.set k (ins (bs.getD k []) i x), _, ?_, HP.out HR2.out HBk2.out, .inr ⟨p, k, i, HCb.out.1, HCb.out.2.1, hkp, HCb.out.2.2, .inl ⟨by rw [HN.out]; exact hsm, rfl⟩⟩, HKp2.out.trans (Kept.setCell _ _ _ (.inl (HOW.out.row.lt g rfl).1))⟩
      rw [World.cell?_setCell_other _ _ _ _ (by first | (simp; done) | (simp; omega))]
      exact q3
    · obtain rfl : n1 = 512 := by omega
      obtain ⟨b2, off2, rfl, hb2, hjunk⟩ := HR2.out.strs.at (by omega)
      have HSt := hide hjunk
      clear hjunk
      have hc2 : 513 ≤ c2 := HR2.out.le
      have hc3 := HR2.out.cap
      unfold maxLen at hc3
      have hhead := fun wx => run_head22 b2 off2 513 c2 256 256 rfl (by omega) wx
      have hcut := fun wx => run_cut22' b2 off2 513 c2 256 256 rfl (by omega) (by omega) wx
      have hwk : IntKind.i64.wrap ((k : Int) + 1) = (k : Int) + 1 := wrap_small _ (by omega) (by omega)
      go_wp2
      go_region_with (go_at_call 33; refine (clip_w _ _ _ _ (by omega) (by omega) ⟨_, _, rfl⟩).mono ?_; rintro e w' ⟨rfl, rfl⟩)
      all_goals
        obtain ⟨w3, hw3⟩ : ∃ w3, w3 = (w2.setCell ⟨g, off + k, none⟩ (.slice (some ⟨b2, off2, none⟩) 256 256)).drew := ⟨_, rfl⟩
        rw [← hw3]
        have hO3 : OB w3 R (some ⟨g, off, none⟩) n c (bs.set k ((ins (bs.getD k []) i x).take 256)) (vs.set k (.slice (some ⟨b2, off2, none⟩) 256 256)) := by
          rw [hw3]
          exact (HP.out (HR2.out.clip 256 (by omega) (by omega)) HBk2.out).kept (Nat.le_refl _) fun _ _ _ => rfl
        have hgb : b2 ≠ g := fun e => hO3.outer k b2 (by rw [set_getD _ _ _ _ _ (by rw [HOW.out.row.len]; exact hkn), if_pos rfl]; rfl) (by rw [e]; rfl)
        have HC3 : Hid (∀ j, j < 257 → w3.drew.cell? ⟨b2, off2 + 256 + j, none⟩ = some (.string (((ins (bs.getD k []) i x).drop 256).getD j ByteArray.empty))) := fun j hj => by
          rw [World.cell?_drew, hw3, World.cell?_drew, World.cell?_setCell_other _ _ _ _ (by simp [hgb.symm]), Nat.add_assoc, HSt.out (256 + j) (by omega)]
          simp [List.getD]
        have r3 : w3.cell? ⟨S, 0, none⟩ = some (.slice (some ⟨g, off, none⟩) n c) := by
          rw [hw3, World.cell?_drew, World.cell?_setCell_other _ _ _ _ (by simp [hSg.symm])]
          exact q3
        have r4 : w3.frozen? ⟨S, 0, none⟩ = false := by
          rw [hw3, World.frozen?_drew, World.frozen?_setCell]
          exact q4
        have HK3 : Hid (Kept (fun j => R j ∨ j = S) w w3.drew) := by
          rw [hw3]
          exact (HKp2.out.trans (Kept.setCell _ _ _ (.inl (HOW.out.row.lt g rfl).1))).trans ⟨rfl, rfl, rfl, Nat.le_refl _, fun _ _ _ => rfl⟩
        have hO3d : OB w3.drew R (some ⟨g, off, none⟩) n c (bs.set k ((ins (bs.getD k []) i x).take 256)) (vs.set k (.slice (some ⟨b2, off2, none⟩) 256 256)) := hO3.kept (Nat.le_refl _) fun _ _ _ => rfl
        have HO3 := hide hO3d
        have HR3 : Hid (∀ j, w3.drew.heap.size ≤ j → R j) := fun j hj => HRW.out j (by
          have h1 : W.heap.size ≤ w3.heap.size := by rw [hw3]; have := HW2.out; show _ ≤ (World.setCell _ _ _).heap.size; rw [World.size_setCell]; exact this
          exact Nat.le_trans h1 hj)
        have hlen : ((ins (bs.getD k []) i x).drop 256).length = 257 := by rw [List.length_drop, ins_len _ _ _ (by rw [HN.out]; exact hi), HN.out]
        have HL3 := hide hlen
        clear hO3 hO3d hlen hw3 q1 q2 q3 q4 HP HR2 HBk2 HSt HRm HW1 HOW hhead
        go_wp2
        go_region_with (first
          | (go_at_call 35; refine (clone_w b2 (off2 + 256) 257 (c2 - 256) _ _ HL3.out (by omega) HC3.out).mono ?_; rintro e w4 ⟨ar, cr, rfl, hown4, hbel4⟩; have t1 : w4.cell? ⟨S, 0, none⟩ = some (.slice (some ⟨g, off, none⟩) n c) := (hbel4.cell (p := ⟨S, 0, none⟩) (block_lt_of_cell r3)).trans r3; have t2 : S < w4.heap.size := block_lt_of_cell t1; have HS4 := hide (And.intro hown4 hbel4); clear hown4 hbel4)
          | (go_at_call 34; refine (ins_step HO3.out HR3.out HRS.out hn k hkn r3 r4 HS4.out.1 HS4.out.2 _ rfl).mono ?_; rintro e w5 ⟨a5, c5, rfl, t5, t6, HF⟩))
        all_goals
          go_wp2
          refine bodyPost_ret (v := .tuple #[]) (by simp [results, Try.results27, go_sem]) rfl ⟨rfl, a5, n + 1, c5, _, _, World.cell?_setCell_same _ _ _ t5, (HF.out.1.kept (by simp) fun q hq _ => Below.heap_setCell _ _ _ _ fun e => HRS.out (by have e2 : q = S := e; rw [← e2]; exact hq)), .inr ⟨p, k, i, HCb.out.1, HCb.out.2.1, hkp, HCb.out.2.2, .inr ⟨by rw [HN.out]; omega, by rw [HN.out]⟩⟩, HK3.out.trans (HF.out.2.trans (Kept.setCell _ _ _ (.inr rfl)))⟩

end Go.Proofs.Qxb6605445a
