/-
  Sorted lists of names; one merge; the runs of a bottom-up merge sort. No Go in sight.
-/
import Derived.Test.Qxb6605445aWkE
namespace Go.Proofs.Qxb6605445a
set_option linter.unusedVariables false
set_option linter.unusedSimpArgs false

/-- a sorts not behind b. -/
def leB (a b : ByteArray) : Bool := !Op.bytesLess b.toList a.toList

theorem leB_iff (a b : ByteArray) : leB a b = true ↔ ¬ ltB b a := by
  unfold leB ltB
  cases Op.bytesLess b.toList a.toList <;> simp
theorem leB_trans (a b c : ByteArray) (h : leB a b = true) (k : leB b c = true) : leB a c = true := by
  rw [leB_iff] at *
  intro hca
  by_cases hba : ltB b c
  · exact h (ltB_trans _ _ _ hba hca)
  · have : b = c := ltB_total b c hba k
    subst this
    exact h hca
theorem leB_total (a b : ByteArray) : (leB a b || leB b a) = true := by
  rw [Bool.or_eq_true, leB_iff, leB_iff]
  by_cases h : ltB b a
  · exact .inr fun k => ltB_irrefl a (ltB_trans _ _ _ k h)
  · exact .inl h
theorem leB_antisymm (a b : ByteArray) (h : leB a b = true) (k : leB b a = true) : a = b := by
  rw [leB_iff] at *
  exact ltB_total a b k h

theorem pw_mono {α : Type} {r s : α → α → Prop} (hrs : ∀ a b, r a b → s a b) : ∀ {l : List α}, l.Pairwise r → l.Pairwise s
  | [], _ => List.Pairwise.nil
  | _ :: _, h => List.pairwise_cons.2 ⟨fun z hz => hrs _ _ ((List.pairwise_cons.1 h).1 z hz), pw_mono hrs (List.pairwise_cons.1 h).2⟩

def Sorted (l : List ByteArray) : Prop := l.Pairwise fun a b => leB a b = true

/-- Two sorted lists of the same names are one. -/
theorem sorted_unique {l m : List ByteArray} (hp : l.Perm m) (hl : Sorted l) (hm : Sorted m) : l = m :=
  List.Perm.eq_of_pairwise (fun a b _ _ h k => leB_antisymm a b h k) hl hm hp

/-- The names from a up to b. -/
def seg (l : List ByteArray) (a b : Nat) : List ByteArray := (l.drop a).take (b - a)

theorem seg_self (l : List ByteArray) (a : Nat) : seg l a a = [] := by simp [seg]
theorem seg_len (l : List ByteArray) (a b : Nat) (h : b ≤ l.length) : (seg l a b).length = b - a := by simp [seg]; omega
theorem seg_cons (l : List ByteArray) (a b : Nat) (h : a < b) (hb : b ≤ l.length) : seg l a b = l.getD a ByteArray.empty :: seg l (a + 1) b := by
  unfold seg
  rw [List.drop_eq_getElem_cons (show a < l.length by omega), show b - a = (b - (a + 1)) + 1 by omega, List.take_succ_cons]
  simp [List.getD, show a < l.length by omega]

/-- The merge that is under way: ds is written, the rest is to come. -/
theorem merge_left {l : List ByteArray} {i mid j hi : Nat} (h1 : i < mid) (h2 : mid ≤ l.length) (hj : j = hi ∨ (j < hi ∧ hi ≤ l.length ∧ Op.bytesLess (l.getD j ByteArray.empty).toList (l.getD i ByteArray.empty).toList = false)) :
    (seg l i mid).merge (seg l j hi) leB = l.getD i ByteArray.empty :: (seg l (i + 1) mid).merge (seg l j hi) leB := by
  rw [seg_cons l i mid h1 h2]
  rcases hj with rfl | ⟨h3, h4, h5⟩
  · rw [seg_self, List.merge_right, List.merge_right]
  · rw [seg_cons l j hi h3 h4, List.cons_merge_cons, if_pos (by rw [leB, h5]; rfl)]
theorem merge_right' {l : List ByteArray} {i mid j hi : Nat} (h1 : j < hi) (h2 : hi ≤ l.length) (hi' : i = mid ∨ (i < mid ∧ mid ≤ l.length ∧ Op.bytesLess (l.getD j ByteArray.empty).toList (l.getD i ByteArray.empty).toList = true)) :
    (seg l i mid).merge (seg l j hi) leB = l.getD j ByteArray.empty :: (seg l i mid).merge (seg l (j + 1) hi) leB := by
  rw [seg_cons l j hi h1 h2]
  rcases hi' with rfl | ⟨h3, h4, h5⟩
  · rw [seg_self, List.nil_merge, List.nil_merge]
  · rw [seg_cons l i mid h3 h4, List.cons_merge_cons, if_neg (by rw [leB, h5]; simp)]

/-- dst while block [lo, hi) is being merged: k names are done. -/
structure Merging (xs ys zs : List ByteArray) (lo mid hi i j k : Nat) : Prop where
  len : zs.length = xs.length
  ends : lo ≤ i ∧ i ≤ mid ∧ mid ≤ j ∧ j ≤ hi ∧ hi ≤ xs.length ∧ k + mid = i + j
  head : zs.take lo = ys.take lo
  rest : seg zs lo k ++ (seg xs i mid).merge (seg xs j hi) leB = (seg xs lo mid).merge (seg xs mid hi) leB

theorem merging_start {xs ys : List ByteArray} {lo mid hi : Nat} (hl : ys.length = xs.length) (h1 : lo ≤ mid) (h2 : mid ≤ hi) (h3 : hi ≤ xs.length) : Merging xs ys ys lo mid hi lo mid lo :=
  ⟨hl, ⟨Nat.le_refl _, h1, Nat.le_refl _, h2, h3, by omega⟩, rfl, by rw [seg_self, List.nil_append]⟩

theorem seg_set (zs : List ByteArray) (lo k : Nat) (y : ByteArray) (h : lo ≤ k) (hk : k < zs.length) : seg (zs.set k y) lo (k + 1) = seg zs lo k ++ [y] := by
  apply List.ext_getElem?
  intro t
  unfold seg
  by_cases h1 : t < k - lo
  · rw [List.getElem?_take_of_lt (by omega), List.getElem?_drop, List.getElem?_append_left (by simp; omega), List.getElem?_take_of_lt (by omega), List.getElem?_drop, List.getElem?_set_ne (by omega)]
  · by_cases h2 : t = k - lo
    · subst h2
      have hle : ((zs.drop lo).take (k - lo)).length = k - lo := by simp; omega
      rw [List.getElem?_take_of_lt (by omega), List.getElem?_drop, List.getElem?_append_right (by omega), hle, Nat.sub_self, show lo + (k - lo) = k by omega]
      simp [hk]
    · rw [List.getElem?_eq_none (by simp; omega), List.getElem?_eq_none (by simp; omega)]

theorem Merging.takeI {xs ys zs : List ByteArray} {lo mid hi i j k : Nat} (h : Merging xs ys zs lo mid hi i j k) (h1 : i < mid) (hj : j = hi ∨ (j < hi ∧ Op.bytesLess (xs.getD j ByteArray.empty).toList (xs.getD i ByteArray.empty).toList = false)) :
    Merging xs ys (zs.set k (xs.getD i ByteArray.empty)) lo mid hi (i + 1) j (k + 1) := by
  obtain ⟨e1, e2, e3, e4, e5, e6⟩ := h.ends
  refine ⟨by simp [h.len], ⟨by omega, by omega, e3, e4, e5, by omega⟩, ?_, ?_⟩
  · rw [← h.head, List.take_set_of_le (by omega)]
  · rw [seg_set zs lo k _ (by omega) (by rw [h.len]; omega), List.append_assoc, List.singleton_append,
      ← merge_left h1 (by omega) (by rcases hj with a | ⟨a, b⟩; exact .inl a; exact .inr ⟨a, e5, b⟩)]
    exact h.rest
theorem Merging.takeJ {xs ys zs : List ByteArray} {lo mid hi i j k : Nat} (h : Merging xs ys zs lo mid hi i j k) (h1 : j < hi) (hi' : i = mid ∨ (i < mid ∧ Op.bytesLess (xs.getD j ByteArray.empty).toList (xs.getD i ByteArray.empty).toList = true)) :
    Merging xs ys (zs.set k (xs.getD j ByteArray.empty)) lo mid hi i (j + 1) (k + 1) := by
  obtain ⟨e1, e2, e3, e4, e5, e6⟩ := h.ends
  refine ⟨by simp [h.len], ⟨e1, e2, by omega, by omega, e5, by omega⟩, ?_, ?_⟩
  · rw [← h.head, List.take_set_of_le (by omega)]
  · rw [seg_set zs lo k _ (by omega) (by rw [h.len]; omega), List.append_assoc, List.singleton_append,
      ← merge_right' h1 e5 (by rcases hi' with a | ⟨a, b⟩; exact .inl a; exact .inr ⟨a, by omega, b⟩)]
    exact h.rest
theorem Merging.done {xs ys zs : List ByteArray} {lo mid hi k : Nat} (h : Merging xs ys zs lo mid hi mid hi k) : k = hi ∧ seg zs lo hi = (seg xs lo mid).merge (seg xs mid hi) leB := by
  obtain ⟨e1, e2, e3, e4, e5, e6⟩ := h.ends
  have hk : k = hi := by omega
  subst hk
  refine ⟨rfl, ?_⟩
  have := h.rest
  rwa [seg_self, seg_self, List.merge_right, List.append_nil] at this

/-- Every aligned chunk of width d is sorted. -/
def Runs (d : Nat) (l : List ByteArray) : Prop := ∀ q, Sorted (seg l (q * d) ((q + 1) * d))

theorem runs_one (l : List ByteArray) : Runs 1 l := by
  intro q
  have : (seg l (q * 1) ((q + 1) * 1)).length ≤ 1 := by simp [seg]; omega
  unfold Sorted
  match h : seg l (q * 1) ((q + 1) * 1), this with
  | [], _ => exact List.Pairwise.nil
  | [a], _ => exact List.pairwise_singleton _ _
theorem runs_all {d : Nat} {l : List ByteArray} (h : Runs d l) (hd : l.length ≤ d) : Sorted l := by
  have := h 0
  unfold seg at this
  rw [Nat.zero_mul, List.drop_zero, List.take_of_length_le (by omega)] at this
  exact this

/-- A pass under way: the first q blocks of width 2d are merged. -/
structure Passing (xs ys : List ByteArray) (d q : Nat) : Prop where
  len : ys.length = xs.length
  perm : (ys.take (q * (2 * d))).Perm (xs.take (q * (2 * d)))
  runs : ∀ r, r < q → Sorted (seg ys (r * (2 * d)) ((r + 1) * (2 * d)))

theorem passing_start (xs ys : List ByteArray) (d : Nat) (h : ys.length = xs.length) : Passing xs ys d 0 := ⟨h, by simp, fun r hr => absurd hr (Nat.not_lt_zero _)⟩

theorem seg_take (l : List ByteArray) (a b : Nat) : seg l a b = (l.take b).drop a := by
  unfold seg
  rw [List.drop_take]
theorem seg_of_take {l m : List ByteArray} {t : Nat} (h : l.take t = m.take t) {a b : Nat} (hb : b ≤ t) : seg l a b = seg m a b := by
  rw [seg_take, seg_take]
  have e : ∀ x : List ByteArray, x.take b = (x.take t).take b := fun x => by rw [List.take_take, Nat.min_eq_left hb]
  rw [e l, e m, h]
theorem seg_min (l : List ByteArray) (a b : Nat) : seg l a (min b l.length) = seg l a b := by
  rw [seg_take, seg_take]
  by_cases h : b ≤ l.length
  · rw [Nat.min_eq_left h]
  · rw [Nat.min_eq_right (by omega), List.take_length, List.take_of_length_le (by omega)]
theorem take_seg (l : List ByteArray) (a b : Nat) (h : a ≤ b) : l.take b = l.take a ++ seg l a b := by
  rw [seg_take]
  have := (List.take_append_drop a (l.take b)).symm
  rwa [List.take_take, Nat.min_eq_left h] at this
theorem seg_split (l : List ByteArray) (a b c : Nat) (h : a ≤ b) (h2 : b ≤ c) : seg l a c = seg l a b ++ seg l b c := by
  have h1 := take_seg l a c (by omega)
  rw [take_seg l b c h2, take_seg l a b h, List.append_assoc] at h1
  exact (List.append_cancel_left h1).symm
theorem seg_past (l : List ByteArray) (a b : Nat) (h : l.length ≤ a) : seg l a b = [] := by
  unfold seg
  rw [List.drop_of_length_le h]
  simp

theorem Passing.step {xs ys zs : List ByteArray} {d q : Nat} (h : Passing xs ys d q) (hr : Runs d xs) (hl : zs.length = xs.length) (hlo : q * (2 * d) < xs.length) (hd : 0 < d)
    (hh : zs.take (q * (2 * d)) = ys.take (q * (2 * d)))
    (hs : seg zs (q * (2 * d)) (min (q * (2 * d) + 2 * d) xs.length) = (seg xs (q * (2 * d)) (min (q * (2 * d) + d) xs.length)).merge (seg xs (min (q * (2 * d) + d) xs.length) (min (q * (2 * d) + 2 * d) xs.length)) leB) :
    Passing xs zs d (q + 1) := by
  have e : (q + 1) * (2 * d) = q * (2 * d) + 2 * d := by rw [Nat.add_mul, Nat.one_mul]
  have hz : seg zs (q * (2 * d)) (q * (2 * d) + 2 * d) = seg zs (q * (2 * d)) (min (q * (2 * d) + 2 * d) xs.length) := by rw [← hl, seg_min]
  refine ⟨hl, ?_, fun r hrq => ?_⟩
  · rw [e, take_seg zs (q * (2 * d)) _ (by omega), take_seg xs (q * (2 * d)) _ (by omega), hh, hz, hs]
    refine List.Perm.append h.perm ?_
    refine (List.merge_perm_append leB).trans ?_
    rw [← seg_split xs _ _ _ (by omega) (by omega), seg_min]
  · by_cases hrq' : r < q
    · have hle : (r + 1) * (2 * d) ≤ q * (2 * d) := Nat.mul_le_mul_right _ hrq'
      rw [seg_of_take hh hle]
      exact h.runs r hrq'
    · obtain rfl : r = q := by omega
      rw [e, hz, hs]
      refine List.pairwise_merge leB_trans leB_total _ _ ?_ ?_
      · have := hr (2 * r)
        rw [show 2 * r * d = r * (2 * d) by rw [Nat.mul_comm 2 r, Nat.mul_assoc], show (2 * r + 1) * d = r * (2 * d) + d by rw [Nat.add_mul, Nat.one_mul, Nat.mul_comm 2 r, Nat.mul_assoc]] at this
        rw [seg_min]
        exact this
      · have := hr (2 * r + 1)
        rw [show (2 * r + 1) * d = r * (2 * d) + d by rw [Nat.add_mul, Nat.one_mul, Nat.mul_comm 2 r, Nat.mul_assoc],
          show (2 * r + 1 + 1) * d = r * (2 * d) + 2 * d by rw [Nat.add_mul, Nat.add_mul, Nat.one_mul, Nat.mul_comm 2 r, Nat.mul_assoc]; omega] at this
        rw [seg_min]
        by_cases hm : r * (2 * d) + d ≤ xs.length
        · rw [Nat.min_eq_left hm]; exact this
        · rw [Nat.min_eq_right (by omega), seg_past _ _ _ (Nat.le_refl _)]
          exact List.Pairwise.nil

theorem Passing.done {xs ys : List ByteArray} {d q : Nat} (h : Passing xs ys d q) (hq : xs.length ≤ q * (2 * d)) : ys.Perm xs ∧ Runs (2 * d) ys := by
  constructor
  · have := h.perm
    rwa [List.take_of_length_le (by rw [h.len]; exact hq), List.take_of_length_le hq] at this
  · intro r
    by_cases hr : r < q
    · exact h.runs r hr
    · rw [seg_past _ _ _ (by
        rw [h.len]
        exact Nat.le_trans hq (Nat.mul_le_mul_right _ (by omega)))]
      exact List.Pairwise.nil

end Go.Proofs.Qxb6605445a
