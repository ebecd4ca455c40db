/-
  ZZAdd.
-/
import Derived.Test.Qxb6605445aWkS
namespace Go.Proofs.Qxb6605445a
open Go.RowKit Go.Lib
set_option linter.unusedVariables false
set_option linter.unusedSimpArgs false

def ZAddIs (w : World) (R : Nat → Prop) (bs : List (List ByteArray)) (x : ByteArray) (e : Ending) (w' : World) : Prop :=
  ∃ a' n' c' bs' vs', e = .returned (.slice a' n' c') ∧ OB w' R a' n' c' bs' vs' ∧ AddP bs x bs' ∧ Kept R w w'

set_option maxHeartbeats 1000000 in
theorem zzAdd_w (a : Option Addr) (n c : Nat) (bs : List (List ByteArray)) (vs : List Value) (x : ByteArray) (R : Nat → Prop) (w : World)
    (h : OB w R a n c bs vs) (hn : n ≤ 65536) (hb : ∀ b ∈ bs, b.length ≤ 512) (ho : Ordered bs) (hR : ∀ j, w.heap.size ≤ j → R j) :
    Calls Try.prog 18 #[.slice a n c, .string x] w fun e w' => ZAddIs w R bs x e w' := by
  have HR := hide hR
  have h1 : OB (w.alloc (.cells #[.slice a n c] 41)) (fun j => R j ∧ j ≠ w.heap.size) a n c bs vs :=
    (h.mono (R' := fun j => R j ∧ j ≠ w.heap.size) fun g hg hl => ⟨hg, by omega⟩).kept (by simp) fun g _ hg => Below.heap_alloc _ _ _ hg
  have hadd := add_w a n c bs vs x w.heap.size (fun j => R j ∧ j ≠ w.heap.size) (w.alloc (.cells #[.slice a n c] 41)) (by simp) (by simp) (fun e => e.2 rfl) h1 hn hb ho (fun j hj => ⟨hR j (by simp at hj; omega), by simp at hj; omega⟩)
  have HA := hide hadd
  clear hadd h1 h hb ho hR
  go_enter Try.func18, Try.ntmps18
  go_wp2_with fail
  refine HA.out.mono ?_
  rintro e w' ⟨rfl, a', n', c', bs', vs', q1, hO, hP, hK⟩
  have HF := hide (And.intro hO (And.intro hP hK))
  clear hO hP hK HA
  go_wp2
  go_ret
  refine ⟨a', n', c', bs', vs', rfl, HF.out.1.mono fun g hg _ => hg.1, HF.out.2.1, ?_⟩
  have hK := HF.out.2.2
  refine ⟨hK.os, hK.tape, hK.output, ?_, fun j hj hn => ?_⟩
  · have := hK.size; simp at this; omega
  · rw [hK.block j (by simp; omega) (fun e => by rcases e with e | e; exact hn e.1; omega)]
    exact Below.heap_alloc _ _ _ hj

end Go.Proofs.Qxb6605445a
