/-
  (*nameSet).after, ZZAfter.
-/
import Derived.Test.Qxb6605445aWkH
import Derived.Deep.RegionWith
import Derived.Deep.DeepMust
import Derived.Deep.DeepFit
namespace Go.Proofs.Qxb6605445a
open Go.RowKit
set_option linter.unusedVariables false
set_option linter.unusedSimpArgs false

/-- What the searches ask of a set of names. -/
structure Ordered (bs : List (List ByteArray)) : Prop where
  ne : ∀ b ∈ bs, 0 < b.length
  lasts : ∀ x i j, i ≤ j → j < bs.length → ltB (lastOf (bs.getD j [])) x → ltB (lastOf (bs.getD i [])) x
  names : ∀ x k i j, i ≤ j → j < (bs.getD k []).length → ltB ((bs.getD k []).getD j ByteArray.empty) x → ltB ((bs.getD k []).getD i ByteArray.empty) x

/-- What 'after' hands back, by where the searches stop: v: the run in a register. -/
def AfterIs (w : World) (bs : List (List ByteArray)) (p x : ByteArray) (v1 v2 v3 : Value) : Prop :=
  (Cut bs.length (fun i => ltB (lastOf (bs.getD i [])) x) bs.length ∧ v1 = .slice none 0 0 ∧ v2 = .slice none 0 0 ∧ v3 = .string ByteArray.empty) ∨
  ∃ (k i : Nat) (f : Bool) (a3 : Option Addr) (n3 c3 : Nat) (a4 : Option Addr) (n4 c4 : Nat), k < bs.length ∧ Cut bs.length (fun i => ltB (lastOf (bs.getD i [])) x) k ∧
    Cut (bs.getD k []).length (fun i => ltB ((bs.getD k []).getD i ByteArray.empty) x) i ∧ (f = true ↔ i < (bs.getD k []).length ∧ (bs.getD k []).getD i ByteArray.empty = x) ∧
    v1 = .slice a3 n3 c3 ∧ v2 = .slice a4 n4 c4 ∧ v3 = .string p ∧
    Strs w a3 n3 c3 (settleF ((bs.getD k []).drop (if f then i + 1 else i)) (bs.drop (k + 1)) p).1 ∧ Blks w a4 n4 c4 (settleF ((bs.getD k []).drop (if f then i + 1 else i)) (bs.drop (k + 1)) p).2

theorem wrap_small (x : Int) (h0 : 0 ≤ x) (h1 : x ≤ 4611686018427387904) : IntKind.i64.wrap x = x := by
  rw [IntKind.wrap_i64]
  omega

theorem run_cut (t : TypeId) (e : TypeId) (ht : Try.prog.underlying t = some (.slice e)) (he : Try.prog.elem t = e) (hz : ∀ w, (sizeOf e).run Try.prog w = .ok 1 w) (a : Option Addr) (n c l : Nat) (L : Int) (hL : L = (l : Int)) (hl : l ≤ n) (w : World) :
    (Instr.slice t (.slice a n c) (some (.int .i64 L)) none none).run Try.prog w = .ok (.slice (cutAddr a c l) (n - l) (c - l)) w := by
  subst hL
  rw [run_slice_l w t a n c (by rw [he]; exact ht) .i64 l (by omega) (by omega), he, hz]
  simp [Result.andThen, sliced, cutAddr]

theorem size9 (w : World) : (sizeOf 9).run Try.prog w = .ok 1 w := by kernel_rfl
theorem size22 (w : World) : (sizeOf 22).run Try.prog w = .ok 1 w := by kernel_rfl
theorem elem22 : Try.prog.elem 22 = 9 := by kernel_rfl
theorem elem25 : Try.prog.elem 25 = 22 := by kernel_rfl
theorem run_cut22 (a : Option Addr) (n c l : Nat) (L : Int) (hL : L = (l : Int)) (hl : l ≤ n) (w : World) : (Instr.slice 22 (.slice a n c) (some (.int .i64 L)) none none).run Try.prog w = .ok (.slice (cutAddr a c l) (n - l) (c - l)) w :=
  run_cut 22 9 Try.underlying22 elem22 size9 a n c l L hL hl w
theorem run_cut25 (a : Option Addr) (n c l : Nat) (L : Int) (hL : L = (l : Int)) (hl : l ≤ n) (w : World) : (Instr.slice 25 (.slice a n c) (some (.int .i64 L)) none none).run Try.prog w = .ok (.slice (cutAddr a c l) (n - l) (c - l)) w :=
  run_cut 25 22 Try.underlying25 elem25 size22 a n c l L hL hl w

theorem res_cells {w w1 : World} {c0 c1 c2 : Value} (hb : Below (w.alloc (.cells #[c0, c1, c2] 44)).drew.heap.size (w.alloc (.cells #[c0, c1, c2] 44)).drew w1) :
    w1.cell? ⟨w.heap.size, 0, none⟩ = some c0 ∧ w1.cell? ⟨w.heap.size, 1, none⟩ = some c1 ∧ w1.cell? ⟨w.heap.size, 2, none⟩ = some c2 ∧
    w1.frozen? ⟨w.heap.size, 0, none⟩ = false ∧ w1.frozen? ⟨w.heap.size, 1, none⟩ = false ∧ w1.frozen? ⟨w.heap.size, 2, none⟩ = false ∧ w.heap.size < w1.heap.size := by
  have hlt : w.heap.size < (w.alloc (.cells #[c0, c1, c2] 44)).drew.heap.size := by simp [World.drew]
  refine ⟨?_, ?_, ?_, ?_, ?_, ?_, by have := hb.size; omega⟩
  · rw [hb.cell (p := ⟨w.heap.size, 0, none⟩) hlt]; show (w.alloc _).cell? _ = _; simp
  · rw [hb.cell (p := ⟨w.heap.size, 1, none⟩) hlt]; show (w.alloc _).cell? _ = _; simp
  · rw [hb.cell (p := ⟨w.heap.size, 2, none⟩) hlt]; show (w.alloc _).cell? _ = _; simp
  · rw [hb.frozen (p := ⟨w.heap.size, 0, none⟩) hlt]; show (w.alloc _).frozen? _ = _; simp
  · rw [hb.frozen (p := ⟨w.heap.size, 1, none⟩) hlt]; show (w.alloc _).frozen? _ = _; simp
  · rw [hb.frozen (p := ⟨w.heap.size, 2, none⟩) hlt]; show (w.alloc _).frozen? _ = _; simp

set_option maxHeartbeats 1000000 in
theorem after_w (a : Option Addr) (n c : Nat) (bs : List (List ByteArray)) (p x : ByteArray) (s : Nat) (w : World) (hs : w.cell? ⟨s, 0, none⟩ = some (.slice a n c)) (hsl : s < w.heap.size)
    (h : Blks w a n c bs) (hn : n ≤ 1048576) (hb : ∀ b ∈ bs, b.length ≤ 1048576) (ho : Ordered bs) :
    Calls Try.prog 28 #[.pointer (some ⟨s, 0, none⟩), .string p, .string x] w fun e w' => (∃ v1 v2 v3, e = .returned (.agg #[v1, v2, v3]) ∧ AfterIs w' bs p x v1 v2 v3) ∧ Below w.heap.size w w' := by
  have HO := hide ho
  have HL := hide h.len
  clear ho
  go_enter Try.func28, Try.ntmps28
  go_wp2_with fail
  have h1 : Blks (w.alloc (.cells #[.slice none 0 0, .slice none 0 0, .string ByteArray.empty] 44)) a n c bs := h.below (B := w.heap.size) ((Below.refl _ _).alloc (Nat.le_refl _) _) (Nat.le_refl _)
  have hs1 : (w.alloc (.cells #[.slice none 0 0, .slice none 0 0, .string ByteArray.empty] 44)).cell? ⟨s, 0, none⟩ = some (.slice a n c) := by rw [World.cell?_alloc_lt _ _ _ hsl]; exact hs
  refine (block_w a n c bs x s _ hs1 h1 hn HO.out.ne (by rw [← HL.out]; exact HO.out.lasts x)).mono ?_
  rintro e w' ⟨⟨k, rfl, hcut⟩, rfl⟩
  have HC := hide hcut
  clear hcut
  by_cases hk : k = n
  · subst hk
    go_wp2
    refine bodyPost_ret (v := .agg #[.slice none 0 0, .slice none 0 0, .string ByteArray.empty]) (by simp [results, Try.results28, go_sem]; rfl) rfl ⟨⟨_, _, _, rfl, ?_⟩, (Below.refl _ _).alloc (Nat.le_refl _) _⟩
    refine .inl ⟨?_, rfl, rfl, rfl⟩
    rw [HL.out]
    exact HC.out
  · have hk' : ((k : Int) == (n : Int)) = false := by rw [beq_eq_false_iff_ne]; omega
    have hkn : k < n := by have := HC.out.le; omega
    have hkb : k < bs.length := by rw [HL.out]; exact hkn
    obtain ⟨b, off, rfl, hbl, g⟩ := h.at (by omega)
    obtain ⟨a1, n1, c1, g1, g2⟩ := g k hkn
    have hmem : bs.getD k [] ∈ bs := by simp [List.getD, hkb]
    have hn1 : 0 < n1 := by rw [← g2.len]; exact HO.out.ne _ hmem
    have hn1' : n1 ≤ 1048576 := by rw [← g2.len]; exact hb _ hmem
    obtain ⟨b1, off1, rfl, hbl1, _⟩ := g2.at hn1
    clear g hmem
    have G := hide g2.len
    have hc1 := g2.cap
    have hl1 := g2.le
    unfold maxLen at hc1
    have hc := h.cap
    have hl := h.le
    unfold maxLen at hc
    go_wp2_with fail
    refine (search_w _ n1 c1 _ x _ (g2.below (B := w.heap.size) ((Below.refl _ _).alloc (Nat.le_refl _) _) (Nat.le_refl _)) hn1' (by rw [← G.out]; exact HO.out.names x k)).mono ?_
    rintro e w' ⟨⟨i, f, rfl, hf, hci⟩, rfl⟩
    have HF := hide hf
    have HI := hide hci
    have hin := hci.le
    clear hf hci
    have hcutb := fun wx => run_cut25 (some ⟨b, off, none⟩) n c (k + 1) ((k : Int) + 1) (by omega) hkn wx
    have hwk : IntKind.i64.wrap ((k : Int) + 1) = (k : Int) + 1 := wrap_small _ (by omega) (by omega)
    have hbd : Below w.heap.size w (w.alloc (.cells #[.slice none 0 0, .slice none 0 0, .string ByteArray.empty] 44)).drew := ((Below.refl _ _).alloc (Nat.le_refl _) _).drew
    have HR := hide (And.intro hbd (And.intro (h.drop (k + 1) hkn) (fun b hb => HO.out.ne b (List.mem_of_mem_drop hb) : ∀ b ∈ bs.drop (k + 1), 0 < b.length)))
    cases f with
    | true =>
      have hin2 : i < n1 := (HF.out.1 rfl).1
      have hcut := fun wx => run_cut22 (some ⟨b1, off1, none⟩) n1 c1 (i + 1) ((i : Int) + 1) (by omega) (by omega) wx
      have HS := hide (g2.drop (i + 1) (by omega))
      clear hbd h1 g1 g2 h hn hb hn1 hn1' hs1 hk
      go_wp2
      go_region_with (go_at_call 36; refine (settle_w _ _ _ _ _ _ _ _ _ _ _ HR.out.1 HS.out HR.out.2.1 HR.out.2.2).mono ?_; rintro e w1 ⟨⟨a3, n3, c3, a4, n4, c4, rfl, s3, s4⟩, hb1⟩; obtain ⟨q0, q1, q2, q3, q4, q5, q6⟩ := res_cells hb1; have HB := hide (And.intro s3 (And.intro s4 hb1)); clear hb1 s3 s4)
      go_wp2
      have hbw : Below w.heap.size w w1 := HR.out.1.trans (HB.out.2.2.mono HR.out.1.size)
      have hbl2 : Below w.heap.size w (((w1.setCell ⟨w.heap.size, 0, none⟩ (.slice a3 n3 c3)).setCell ⟨w.heap.size, 1, none⟩ (.slice a4 n4 c4)).setCell ⟨w.heap.size, 2, none⟩ (.string p)) :=
        ((hbw.setCell (p := ⟨w.heap.size, 0, none⟩) (Nat.le_refl _) _).setCell (p := ⟨w.heap.size, 1, none⟩) (Nat.le_refl _) _).setCell (p := ⟨w.heap.size, 2, none⟩) (Nat.le_refl _) _
      refine bodyPost_ret (v := .agg #[.slice a3 n3 c3, .slice a4 n4 c4, .string p]) (by simp [results, Try.results28, go_sem, q0, q1, q2]) rfl ⟨⟨_, _, _, rfl, ?_⟩, hbl2⟩
      refine .inr ⟨k, i, true, a3, n3, c3, a4, n4, c4, hkb, by rw [HL.out]; exact HC.out, by rw [G.out]; exact HI.out, by rw [G.out]; simpa using HF.out, rfl, rfl, rfl, ?_, ?_⟩
      · exact HB.out.1.below hbl2 (Nat.le_refl _)
      · exact HB.out.2.1.below hbl2 (Nat.le_refl _)
    | false =>
      have hcut := fun wx => run_cut22 (some ⟨b1, off1, none⟩) n1 c1 (i) ((i : Int)) (by omega) (by omega) wx
      have HS := hide (g2.drop (i) (by omega))
      clear hbd h1 g1 g2 h hn hb hn1 hn1' hs1 hk
      go_wp2
      go_region_with (go_at_call 36; refine (settle_w _ _ _ _ _ _ _ _ _ _ _ HR.out.1 HS.out HR.out.2.1 HR.out.2.2).mono ?_; rintro e w1 ⟨⟨a3, n3, c3, a4, n4, c4, rfl, s3, s4⟩, hb1⟩; obtain ⟨q0, q1, q2, q3, q4, q5, q6⟩ := res_cells hb1; have HB := hide (And.intro s3 (And.intro s4 hb1)); clear hb1 s3 s4)
      go_wp2
      have hbw : Below w.heap.size w w1 := HR.out.1.trans (HB.out.2.2.mono HR.out.1.size)
      have hbl2 : Below w.heap.size w (((w1.setCell ⟨w.heap.size, 0, none⟩ (.slice a3 n3 c3)).setCell ⟨w.heap.size, 1, none⟩ (.slice a4 n4 c4)).setCell ⟨w.heap.size, 2, none⟩ (.string p)) :=
        ((hbw.setCell (p := ⟨w.heap.size, 0, none⟩) (Nat.le_refl _) _).setCell (p := ⟨w.heap.size, 1, none⟩) (Nat.le_refl _) _).setCell (p := ⟨w.heap.size, 2, none⟩) (Nat.le_refl _) _
      refine bodyPost_ret (v := .agg #[.slice a3 n3 c3, .slice a4 n4 c4, .string p]) (by simp [results, Try.results28, go_sem, q0, q1, q2]) rfl ⟨⟨_, _, _, rfl, ?_⟩, hbl2⟩
      refine .inr ⟨k, i, false, a3, n3, c3, a4, n4, c4, hkb, by rw [HL.out]; exact HC.out, by rw [G.out]; exact HI.out, by rw [G.out]; simpa using HF.out, rfl, rfl, rfl, ?_, ?_⟩
      · exact HB.out.1.below hbl2 (Nat.le_refl _)
      · exact HB.out.2.1.below hbl2 (Nat.le_refl _)

end Go.Proofs.Qxb6605445a
