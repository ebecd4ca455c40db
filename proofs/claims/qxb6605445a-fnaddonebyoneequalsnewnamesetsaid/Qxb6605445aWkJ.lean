/-
  ZZAfter.
-/
import Derived.Test.Qxb6605445aWkI
namespace Go.Proofs.Qxb6605445a
open Go.RowKit
set_option linter.unusedVariables false
set_option linter.unusedSimpArgs false

theorem AfterIs.below {w w' : World} {bs : List (List ByteArray)} {p x : ByteArray} {v1 v2 v3 : Value} (h : AfterIs w bs p x v1 v2 v3) (hb : Below w.heap.size w w') : AfterIs w' bs p x v1 v2 v3 := by
  rcases h with h | ⟨k, i, f, a3, n3, c3, a4, n4, c4, h1, h2, h3, h4, h5, h6, h7, h8, h9⟩
  · exact .inl h
  · exact .inr ⟨k, i, f, a3, n3, c3, a4, n4, c4, h1, h2, h3, h4, h5, h6, h7, h8.below hb (Nat.le_refl _), h9.below hb (Nat.le_refl _)⟩

theorem AfterIs.form {w : World} {bs : List (List ByteArray)} {p x : ByteArray} {v1 v2 v3 : Value} (h : AfterIs w bs p x v1 v2 v3) : ∃ a3 n3 c3 a4 n4 c4 q, v1 = .slice a3 n3 c3 ∧ v2 = .slice a4 n4 c4 ∧ v3 = .string q := by
  rcases h with ⟨_, rfl, rfl, rfl⟩ | ⟨k, i, f, a3, n3, c3, a4, n4, c4, h1, h2, h3, h4, rfl, rfl, rfl, h8, h9⟩
  · exact ⟨_, _, _, _, _, _, _, rfl, rfl, rfl⟩
  · exact ⟨_, _, _, _, _, _, _, rfl, rfl, rfl⟩

set_option maxHeartbeats 1000000 in
theorem zzAfter_w (a : Option Addr) (n c : Nat) (bs : List (List ByteArray)) (p x : ByteArray) (w : World) (h : Blks w a n c bs) (hn : n ≤ 1048576) (hb : ∀ b ∈ bs, b.length ≤ 1048576) (ho : Ordered bs) :
    Calls Try.prog 23 #[.slice a n c, .string p, .string x] w fun e w' => (∃ v1 v2 v3, e = .returned (.tuple #[v1, v2, v3]) ∧ AfterIs w' bs p x v1 v2 v3) ∧ Below w.heap.size w w' := by
  have H := hide (And.intro h (And.intro hb ho))
  clear h hb ho
  go_enter Try.func23, Try.ntmps23
  go_wp2_with fail
  have hb0 : Below w.heap.size w (w.alloc (.cells #[.slice a n c] 41)) := (Below.refl _ _).alloc (Nat.le_refl _) _
  refine (after_w a n c bs p x w.heap.size _ (by simp) (by simp) (H.out.1.below hb0 (Nat.le_refl _)) hn H.out.2.1 H.out.2.2).mono ?_
  rintro e w1 ⟨⟨v1, v2, v3, rfl, hA⟩, hb1⟩
  have hbw : Below w.heap.size w w1 := hb0.trans (hb1.mono hb0.size)
  obtain ⟨a3, n3, c3, a4, n4, c4, q, rfl, rfl, rfl⟩ := hA.form
  have HA := hide (And.intro hA hbw)
  clear hA hbw hb0 hb1
  go_wp2
  go_quiet (fail)
  go_wp2
  go_ret3
  refine ⟨⟨_, _, _, rfl, ?_⟩, ?_⟩
  · exact HA.out.1.below (below_drewN ((Below.refl _ _).alloc (Nat.le_refl _) _) _)
  · exact below_drewN (HA.out.2.alloc HA.out.2.size _) _

end Go.Proofs.Qxb6605445a
