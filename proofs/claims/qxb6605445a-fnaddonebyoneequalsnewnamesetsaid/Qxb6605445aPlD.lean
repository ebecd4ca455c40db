/-
  The plain law of add: a set stays a set, the name stands in order, a block more only where a full one was split.
-/
import Derived.Test.Qxb6605445aWkS
import Derived.Test.Qxb6605445aPlA
namespace Go.Proofs.Qxb6605445a
open Go.RowKit

structure AddLaw (bs : List (List ByteArray)) (x : ByteArray) (bs' : List (List ByteArray)) (pos : Nat) : Prop where
  set : IsSet bs' 512
  flat : bs'.flatten = ins bs.flatten pos x
  zero : bs.length = 0 → bs'.length = 1
  len : 0 < bs.length → bs'.length = bs.length ∨ (bs'.length = bs.length + 1 ∧ ∃ b ∈ bs, b.length = 512)

theorem parts (bs : List (List ByteArray)) (k : Nat) (hk : k < bs.length) : bs = bs.take k ++ bs.getD k [] :: bs.drop (k + 1) := by
  conv => lhs; rw [← List.take_append_drop k bs]
  rw [List.drop_eq_getElem_cons hk]
  simp [List.getD, hk]

theorem set_parts (bs : List (List ByteArray)) (k : Nat) (hk : k < bs.length) (b : List ByteArray) : bs.set k b = bs.take k ++ b :: bs.drop (k + 1) := by
  rw [List.set_eq_take_append_cons_drop, if_pos hk]

theorem ins_snoc {α : Type} (p : List α) (y z : α) (q : List α) (k : Nat) (hk : p.length = k) : ins (p ++ y :: q) (k + 1) z = p ++ y :: z :: q := by
  subst hk
  unfold ins
  rw [show p ++ y :: q = (p ++ [y]) ++ q by simp, List.take_left' (by simp), List.drop_left' (by simp)]
  simp

theorem add_law {bs : List (List ByteArray)} {x : ByteArray} {bs' : List (List ByteArray)} (h : IsSet bs 512) (hA : AddP bs x bs') (hx : x ∉ bs.flatten) {pos : Nat} (hpos : Cut bs.flatten.length (fun j => ltB (bs.flatten.getD j ByteArray.empty) x) pos) : AddLaw bs x bs' pos := by
  rcases hA with ⟨rfl, rfl⟩ | ⟨p, k, i, hp, hkp, hk, hi, hc⟩
  · have h0 : pos = 0 := by have := hpos.le; simpa using this
    subst h0
    exact ⟨⟨fun b hb => by simp at hb; subst hb; simp, by simp⟩, by simp [ins], fun _ => rfl, fun h => absurd h (Nat.not_lt_zero _)⟩
  · generalize hb : bs.getD k [] = b at hi hc
    have hbm : b ∈ bs := by rw [← hb]; exact getD_mem hk
    have hsz := h.1 b hbm
    have hpar := parts bs k hk
    rw [hb] at hpar
    have hkp2 : k ≤ p := by omega
    -- what stands before and behind
    have hA : ∀ y ∈ (bs.take k).flatten ++ b.take i, ltB y x := by
      intro y hy
      rcases List.mem_append.1 hy with hy | hy
      · obtain ⟨j, hj, hjb, hyj⟩ := mem_take_flat hy
        have hl := hp.yes j (by omega)
        rcases last_ge (set_block h (getD_mem hjb)) hyj with rfl | hlt
        · exact hl
        · exact ltB_trans _ _ _ hlt hl
      · exact cut_take hi y hy
    have hflat : bs.flatten = ((bs.take k).flatten ++ b.take i) ++ (b.drop i ++ (bs.drop (k + 1)).flatten) := by
      conv => lhs; rw [hpar]
      simp only [List.flatten_append, List.flatten_cons]
      rw [List.append_assoc, ← List.append_assoc (b.take i), List.take_append_drop]
    have hB : ∀ y ∈ b.drop i ++ (bs.drop (k + 1)).flatten, ltB x y := by
      intro y hy
      have hyx : y ≠ x := fun e => hx (by rw [hflat, ← e]; exact List.mem_append.2 (.inr hy))
      have key : ¬ ltB y x → ltB x y := fun h1 => Classical.byContradiction fun h2 => hyx (ltB_total _ _ h1 h2)
      rcases List.mem_append.1 hy with hy | hy
      · exact key (cut_drop hi y hy)
      · obtain ⟨j, hj, hjb, hyj⟩ := mem_drop_flat hy
        have hpk : p = k := by omega
        have hl := hp.no k (by omega) hk
        refine key fun h1 => hl ?_
        exact ltB_trans _ _ _ (set_blocks h (show k < j by omega) hjb (last_mem (by rw [hb]; exact hsz.1)) hyj) h1
    generalize hAA : (bs.take k).flatten ++ b.take i = A at hA hflat
    generalize hBB : b.drop i ++ (bs.drop (k + 1)).flatten = B at hB hflat
    have hcutA : Cut bs.flatten.length (fun j => ltB (bs.flatten.getD j ByteArray.empty) x) A.length := by
      rw [hflat]
      refine ⟨by simp, fun j hj => ?_, fun j hj hjl => ?_⟩
      · refine hA _ ?_
        rw [show (A ++ B).getD j ByteArray.empty = A.getD j ByteArray.empty by simp [List.getD, List.getElem?_append_left hj]]
        exact getD_mem hj
      · refine ltB_asymm (hB _ ?_)
        rw [show (A ++ B).getD j ByteArray.empty = B.getD (j - A.length) ByteArray.empty by simp [List.getD, List.getElem?_append_right hj]]
        exact getD_mem (by simp at hjl; omega)
    have hpA : pos = A.length := cut_unique hpos hcutA
    have hins : ins bs.flatten pos x = A ++ x :: B := by
      rw [hpA, hflat]; simp [ins]
    have hfl' : bs'.flatten = A ++ x :: B := by
      have h1 : (bs.take k).flatten ++ (ins b i x ++ (bs.drop (k + 1)).flatten) = A ++ x :: B := by
        rw [← hAA, ← hBB]; simp [ins]
      rcases hc with ⟨_, rfl⟩ | ⟨_, rfl⟩
      · rw [set_parts bs k hk]; simpa using h1
      · generalize hm : (b.length + 1) / 2 = m
        rw [set_parts bs k hk]
        have e : ins (bs.take k ++ (ins b i x).take m :: bs.drop (k + 1)) (k + 1) ((ins b i x).drop m) = bs.take k ++ (ins b i x).take m :: (ins b i x).drop m :: bs.drop (k + 1) := by
          exact ins_snoc _ _ _ _ _ (by simp; omega)
        rw [e]
        simp only [List.flatten_append, List.flatten_cons]
        rw [← List.append_assoc ((ins b i x).take m), List.take_append_drop]
        exact h1
    have hpw : (A ++ x :: B).Pairwise ltB := by
      have h1 := h.2
      rw [hflat, List.pairwise_append] at h1
      rw [List.pairwise_append, List.pairwise_cons]
      refine ⟨h1.1, ⟨hB, h1.2.1⟩, fun y hy z hz => ?_⟩
      rcases List.mem_cons.1 hz with rfl | hz
      · exact hA y hy
      · exact h1.2.2 y hy z hz
    have hil : (ins b i x).length = b.length + 1 := ins_len _ _ _ hi.le
    refine ⟨⟨fun q hq => ?_, by rw [hfl']; exact hpw⟩, by rw [hfl', hins], fun h0 => by omega, fun _ => ?_⟩
    · rcases hc with ⟨hl, rfl⟩ | ⟨hl, rfl⟩
      · rcases List.mem_or_eq_of_mem_set hq with h1 | h1
        · exact h.1 q h1
        · subst h1; omega
      · have h2 : q ∈ bs.set k ((ins b i x).take ((b.length + 1) / 2)) ∨ q = (ins b i x).drop ((b.length + 1) / 2) := by
          unfold ins at hq
          rcases List.mem_append.1 hq with h1 | h1
          · exact .inl (List.mem_of_mem_take h1)
          · rcases List.mem_cons.1 h1 with h1 | h1
            · exact .inr h1
            · exact .inl (List.mem_of_mem_drop h1)
        rcases h2 with h2 | h2
        · rcases List.mem_or_eq_of_mem_set h2 with h1 | h1
          · exact h.1 q h1
          · rw [h1, List.length_take]; omega
        · rw [h2, List.length_drop]; omega
    · rcases hc with ⟨hl, rfl⟩ | ⟨hl, rfl⟩
      · left; simp
      · right
        refine ⟨?_, b, hbm, by omega⟩
        rw [ins_len _ _ _ (by simp; omega)]
        simp

theorem ins_perm (l : List ByteArray) (i : Nat) (x : ByteArray) : (ins l i x).Perm (x :: l) := by
  unfold ins
  refine List.perm_middle.trans ?_
  rw [List.take_append_drop]

end Go.Proofs.Qxb6605445a
