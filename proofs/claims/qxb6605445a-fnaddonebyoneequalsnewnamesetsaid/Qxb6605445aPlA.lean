/-
  The plain law of 'after': no Go in sight.
-/
import Derived.Test.Qxb6605445aWkI
namespace Go.Proofs.Qxb6605445a
set_option linter.unusedVariables false
set_option linter.unusedSimpArgs false

theorem ltB_asymm {a b : ByteArray} (h : ltB a b) : ¬ ltB b a := fun k => ltB_irrefl a (ltB_trans _ _ _ h k)
theorem ltB_of_not {a b c : ByteArray} (h : ¬ ltB b a) (k : ltB b c) : ltB a c := by
  by_cases hab : ltB a b
  · exact ltB_trans _ _ _ hab k
  · rw [ltB_total a b hab h]; exact k

theorem getD_mem {α : Type} {l : List α} {i : Nat} {d : α} (h : i < l.length) : l.getD i d ∈ l := by simp [List.getD, h]
theorem mem_getD {α : Type} {l : List α} {y : α} (d : α) (h : y ∈ l) : ∃ i, i < l.length ∧ l.getD i d = y := by
  obtain ⟨i, hi, rfl⟩ := List.getElem_of_mem h
  exact ⟨i, hi, by simp [List.getD, hi]⟩

theorem mem_drop_getD {α : Type} {l : List α} {y : α} {i : Nat} (d : α) (h : y ∈ l.drop i) : ∃ j, i ≤ j ∧ j < l.length ∧ l.getD j d = y := by
  obtain ⟨j, hj, rfl⟩ := List.getElem_of_mem h
  have hj' : i + j < l.length := by simp at hj; omega
  exact ⟨i + j, by omega, hj', by simp [List.getD, hj']⟩

theorem pw_getD {l : List ByteArray} (h : l.Pairwise ltB) {i j : Nat} (hij : i < j) (hj : j < l.length) : ltB (l.getD i ByteArray.empty) (l.getD j ByteArray.empty) := by
  have := (List.pairwise_iff_getElem.1 h) i j (by omega) hj hij
  simpa [List.getD, show i < l.length by omega, hj] using this

theorem last_mem {l : List ByteArray} (h : 0 < l.length) : lastOf l ∈ l := getD_mem (by omega)
theorem last_ge {l : List ByteArray} (hp : l.Pairwise ltB) {y : ByteArray} (hy : y ∈ l) : y = lastOf l ∨ ltB y (lastOf l) := by
  obtain ⟨i, hi, rfl⟩ := mem_getD ByteArray.empty hy
  by_cases h : i = l.length - 1
  · exact .inl (by rw [h]; rfl)
  · exact .inr (pw_getD hp (by omega) (by omega))

theorem set_block {bs : List (List ByteArray)} {limit : Nat} (h : IsSet bs limit) {b : List ByteArray} (hb : b ∈ bs) : b.Pairwise ltB := (List.pairwise_flatten.1 h.2).1 b hb
theorem set_blocks {bs : List (List ByteArray)} {limit : Nat} (h : IsSet bs limit) {i j : Nat} (hij : i < j) (hj : j < bs.length) {y z : ByteArray} (hy : y ∈ bs.getD i []) (hz : z ∈ bs.getD j []) : ltB y z := by
  have := (List.pairwise_iff_getElem.1 (List.pairwise_flatten.1 h.2).2) i j (by omega) hj hij
  refine this y ?_ z ?_
  · simpa [List.getD, show i < bs.length by omega] using hy
  · simpa [List.getD, hj] using hz

theorem set_ordered {bs : List (List ByteArray)} {limit : Nat} (h : IsSet bs limit) : Ordered bs := by
  refine ⟨fun b hb => (h.1 b hb).1, fun x i j hij hj hl => ?_, fun x k i j hij hj hl => ?_⟩
  · rcases Nat.lt_or_eq_of_le hij with hlt | rfl
    · exact ltB_trans _ _ _ (set_blocks h hlt hj (last_mem (h.1 _ (getD_mem (by omega))).1) (last_mem (h.1 _ (getD_mem hj)).1)) hl
    · exact hl
  · rcases Nat.lt_or_eq_of_le hij with hlt | rfl
    · by_cases hk : k < bs.length
      · exact ltB_trans _ _ _ (pw_getD (set_block h (getD_mem hk)) hlt hj) hl
      · simp [List.getD, hk] at hj
    · exact hl

theorem cut_take {l : List ByteArray} {x : ByteArray} {i : Nat} (h : Cut l.length (fun i => ltB (l.getD i ByteArray.empty) x) i) : ∀ y ∈ l.take i, ltB y x := by
  intro y hy
  obtain ⟨j, hj, rfl⟩ := List.getElem_of_mem hy
  have hj' : j < i ∧ j < l.length := by simp at hj; omega
  have := h.yes j hj'.1
  simpa [List.getD, hj'.2] using this
theorem cut_drop {l : List ByteArray} {x : ByteArray} {i : Nat} (h : Cut l.length (fun i => ltB (l.getD i ByteArray.empty) x) i) : ∀ y ∈ l.drop i, ¬ ltB y x := by
  intro y hy
  obtain ⟨j, hj, rfl⟩ := List.getElem_of_mem hy
  have hj' : i + j < l.length := by simp at hj; omega
  have := h.no (i + j) (by omega) hj'
  simpa [List.getD, hj'] using this

/-- The flat list, parted at name i of block k. -/
theorem flat_at {bs : List (List ByteArray)} {k : Nat} (hk : k < bs.length) {i : Nat} (hi : i ≤ (bs.getD k []).length) :
    bs.flatten.take ((bs.take k).flatten.length + i) = (bs.take k).flatten ++ (bs.getD k []).take i ∧ bs.flatten.drop ((bs.take k).flatten.length + i) = (bs.getD k []).drop i ++ (bs.drop (k + 1)).flatten := by
  have e : bs.flatten = (bs.take k).flatten ++ (bs.getD k [] ++ (bs.drop (k + 1)).flatten) := by
    have h1 : bs = bs.take k ++ (bs.getD k [] :: bs.drop (k + 1)) := by
      conv => lhs; rw [← List.take_append_drop k bs]
      rw [List.drop_eq_getElem_cons hk]
      simp [List.getD, hk]
    conv => lhs; rw [h1]
    simp
  rw [e]
  constructor
  · rw [List.take_append, List.take_of_length_le (by omega), Nat.add_sub_cancel_left, List.take_append_of_le_length hi]
  · rw [List.drop_append, List.drop_of_length_le (by omega), List.nil_append, Nat.add_sub_cancel_left, List.drop_append_of_le_length hi]

/-- What the searches have found, without memory: first, rest, and the lead. -/
def AfterP (bs : List (List ByteArray)) (p x : ByteArray) (fs : List ByteArray) (rs : List (List ByteArray)) (q : ByteArray) : Prop :=
  (Cut bs.length (fun i => ltB (lastOf (bs.getD i [])) x) bs.length ∧ fs = [] ∧ rs = [] ∧ q = ByteArray.empty) ∨
  ∃ (k i : Nat) (f : Bool), k < bs.length ∧ Cut bs.length (fun i => ltB (lastOf (bs.getD i [])) x) k ∧
    Cut (bs.getD k []).length (fun i => ltB ((bs.getD k []).getD i ByteArray.empty) x) i ∧ (f = true ↔ i < (bs.getD k []).length ∧ (bs.getD k []).getD i ByteArray.empty = x) ∧
    q = p ∧ fs = (settleF ((bs.getD k []).drop (if f then i + 1 else i)) (bs.drop (k + 1)) p).1 ∧ rs = (settleF ((bs.getD k []).drop (if f then i + 1 else i)) (bs.drop (k + 1)) p).2

theorem mem_take_flat {bs : List (List ByteArray)} {k : Nat} {y : ByteArray} (h : y ∈ (bs.take k).flatten) : ∃ j, j < k ∧ j < bs.length ∧ y ∈ bs.getD j [] := by
  obtain ⟨l, hl, hy⟩ := List.mem_flatten.1 h
  obtain ⟨j, hj, rfl⟩ := List.getElem_of_mem hl
  have hj' : j < k ∧ j < bs.length := by simp at hj; omega
  exact ⟨j, hj'.1, hj'.2, by simpa [List.getD, hj'.2] using hy⟩
theorem mem_drop_flat {bs : List (List ByteArray)} {k : Nat} {y : ByteArray} (h : y ∈ (bs.drop k).flatten) : ∃ j, k ≤ j ∧ j < bs.length ∧ y ∈ bs.getD j [] := by
  obtain ⟨l, hl, hy⟩ := List.mem_flatten.1 h
  obtain ⟨j, hj, rfl⟩ := List.getElem_of_mem hl
  have hj' : k + j < bs.length := by simp at hj; omega
  exact ⟨k + j, by omega, hj', by simpa [List.getD, hj'] using hy⟩

/-- Names in the blocks that end before x sort before x. -/
theorem before_lt {bs : List (List ByteArray)} {limit : Nat} (h : IsSet bs limit) {x : ByteArray} {k : Nat} (hc : Cut bs.length (fun i => ltB (lastOf (bs.getD i [])) x) k) : ∀ y ∈ (bs.take k).flatten, ltB y x := by
  intro y hy
  obtain ⟨j, hj, hjb, hy⟩ := mem_take_flat hy
  rcases last_ge (set_block h (getD_mem hjb)) hy with rfl | hl
  · exact hc.yes j hj
  · exact ltB_trans _ _ _ hl (hc.yes j hj)

/-- Where the searches part the flat list: all ahead sort not behind x, all behind sort behind x. -/
theorem part_at {bs : List (List ByteArray)} {limit : Nat} (h : IsSet bs limit) {x : ByteArray} {k i : Nat} {f : Bool} (hk : k < bs.length) (hc : Cut bs.length (fun i => ltB (lastOf (bs.getD i [])) x) k)
    (hi : Cut (bs.getD k []).length (fun i => ltB ((bs.getD k []).getD i ByteArray.empty) x) i) (hf : f = true ↔ i < (bs.getD k []).length ∧ (bs.getD k []).getD i ByteArray.empty = x) :
    (if f then i + 1 else i) ≤ (bs.getD k []).length ∧ (∀ y ∈ (bs.take k).flatten ++ (bs.getD k []).take (if f then i + 1 else i), ¬ ltB x y) ∧ (∀ y ∈ (bs.getD k []).drop (if f then i + 1 else i) ++ (bs.drop (k + 1)).flatten, ltB x y) := by
  have hpw := set_block h (getD_mem (d := []) hk)
  have hlater : ∀ y ∈ (bs.drop (k + 1)).flatten, ltB x y := by
    intro y hy
    obtain ⟨j, hj, hjb, hy⟩ := mem_drop_flat hy
    exact ltB_of_not (hc.no k (Nat.le_refl _) hk) (set_blocks h (show k < j by omega) hjb (last_mem (h.1 _ (getD_mem hk)).1) hy)
  have hfirst := before_lt h hc
  have ht := cut_take hi
  cases f with
  | true =>
    obtain ⟨h1, h2⟩ := hf.1 rfl
    refine ⟨by rw [if_pos rfl]; omega, fun y hy => ?_, fun y hy => ?_⟩
    · simp only [if_true] at hy
      rw [take_snoc ByteArray.empty _ i h1, h2] at hy
      rcases List.mem_append.1 hy with hy | hy
      · exact ltB_asymm (hfirst y hy)
      · rcases List.mem_append.1 hy with hy | hy
        · exact ltB_asymm (ht y hy)
        · simp at hy; subst hy; exact ltB_irrefl _
    · simp only [if_true] at hy
      rcases List.mem_append.1 hy with hy | hy
      · obtain ⟨j, hj, hj', rfl⟩ := mem_drop_getD ByteArray.empty hy
        have := pw_getD hpw (show i < j by omega) hj'
        rwa [h2] at this
      · exact hlater y hy
  | false =>
    have hn : ¬ (i < (bs.getD k []).length ∧ (bs.getD k []).getD i ByteArray.empty = x) := fun e => by have := hf.2 e; cases this
    refine ⟨by simpa using hi.le, fun y hy => ?_, fun y hy => ?_⟩
    · simp only [Bool.false_eq_true, if_false] at hy
      rcases List.mem_append.1 hy with hy | hy
      · exact ltB_asymm (hfirst y hy)
      · exact ltB_asymm (ht y hy)
    · simp only [Bool.false_eq_true, if_false] at hy
      rcases List.mem_append.1 hy with hy | hy
      · obtain ⟨j, hj, hj', rfl⟩ := mem_drop_getD ByteArray.empty hy
        have hi' : i < (bs.getD k []).length := by omega
        have h0 : ¬ ltB ((bs.getD k []).getD i ByteArray.empty) x := hi.no i (Nat.le_refl _) hi'
        have hx : ltB x ((bs.getD k []).getD i ByteArray.empty) := by
          by_cases h1 : ltB x ((bs.getD k []).getD i ByteArray.empty)
          · exact h1
          · exact absurd ⟨hi', ltB_total _ _ h0 h1⟩ hn
        by_cases hj0 : i = j
        · subst hj0; exact hx
        · exact ltB_trans _ _ _ hx (pw_getD hpw (by omega) hj')
      · exact hlater y hy

theorem flat_nil {bs : List (List ByteArray)} (h : ∀ b ∈ bs, 0 < b.length) (he : bs.flatten = []) : bs = [] := by
  cases bs with
  | nil => rfl
  | cons b r =>
    have := h b (by simp)
    simp at he
    rw [he.1] at this
    simp at this

/-- What 'settle' has done, in terms of the flat rest. -/
theorem step_flat (fs : List ByteArray) (rs : List (List ByteArray)) : (stepF fs rs).1 ++ (stepF fs rs).2.flatten = fs ++ rs.flatten := by
  unfold stepF
  split
  · rename_i h
    obtain ⟨h1, h2⟩ := h
    cases rs with
    | nil => simp at h2
    | cons r rs => simp [List.eq_nil_of_length_eq_zero h1, List.getD]
  · rfl
theorem step_nil (fs : List ByteArray) (rs : List (List ByteArray)) (h : ∀ b ∈ rs, 0 < b.length) (he : (stepF fs rs).1 = []) : fs ++ rs.flatten = [] ∧ (stepF fs rs).2 = [] := by
  unfold stepF at he ⊢
  split at he
  · rename_i h'
    have := h (rs.getD 0 []) (getD_mem h'.2)
    simp only at he
    rw [he] at this
    simp at this
  · rename_i h'
    rw [if_neg h']
    simp only at he ⊢
    subst he
    have : rs = [] := List.eq_nil_of_length_eq_zero (by simp at h'; simp [h'])
    subst this
    simp

/-- The law's own scan: t names sort not behind x; the next, if there is one, does. -/
structure Scan (F : List ByteArray) (x : ByteArray) (t : Nat) : Prop where
  le : t ≤ F.length
  no : ∀ i, i < t → ¬ ltB x (F.getD i ByteArray.empty)
  yes : t < F.length → ltB x (F.getD t ByteArray.empty)

theorem scan_eq {F : List ByteArray} {x : ByteArray} {t P : Nat} (h : Scan F x t) (hP : P ≤ F.length) (h1 : ∀ y ∈ F.take P, ¬ ltB x y) (h2 : ∀ y ∈ F.drop P, ltB x y) : t = P := by
  rcases Nat.lt_trichotomy t P with hlt | he | hgt
  · have hN : t < F.length := by omega
    exact absurd (h.yes hN) (h1 _ (by rw [List.mem_take_iff_getElem]; exact ⟨t, by omega, by simp [List.getD, hN]⟩))
  · exact he
  · have hle := h.le
    have hN : P < F.length := by omega
    refine absurd (h2 (F.getD P ByteArray.empty) ?_) (h.no P hgt)
    rw [List.mem_drop_iff_getElem]
    exact ⟨0, by omega, by simp [List.getD, hN]⟩

/-- What the law asks of 'after''s run. -/
structure AfterLaw (bs : List (List ByteArray)) (p x : ByteArray) (fs : List ByteArray) (rs : List (List ByteArray)) (q : ByteArray) (t : Nat) : Prop where
  preA : bs.flatten.length = 0 ∨ ltB (bs.flatten.getD (bs.flatten.length - 1) ByteArray.empty) x → q = ByteArray.empty
  preB : ¬ (bs.flatten.length = 0 ∨ ltB (bs.flatten.getD (bs.flatten.length - 1) ByteArray.empty) x) → q = p
  none : t = bs.flatten.length ∨ hp (bs.flatten.getD t ByteArray.empty) p = false → fs = [] ∧ rs = []
  some : ¬ (t = bs.flatten.length ∨ hp (bs.flatten.getD t ByteArray.empty) p = false) → 0 < fs.length ∧ q = p ∧ bs.flatten.drop t = fs ++ rs.flatten ∧
    ∃ k, 1 ≤ k ∧ k ≤ bs.length ∧ rs = bs.drop k ∧ fs.length ≤ (bs.getD (k - 1) []).length ∧ fs = (bs.getD (k - 1) []).drop ((bs.getD (k - 1) []).length - fs.length)

theorem last_flat_mem {F : List ByteArray} (h : F ≠ []) : F.getD (F.length - 1) ByteArray.empty ∈ F := getD_mem (by have := List.length_pos_iff.2 h; omega)

theorem getD_of_drop {F : List ByteArray} {t : Nat} {y : ByteArray} {l : List ByteArray} (h : F.drop t = y :: l) : F.getD t ByteArray.empty = y := by
  have := congrArg (fun l => l[0]?) h
  simp at this
  simp [List.getD, this]

theorem suffix_form {b : List ByteArray} {i : Nat} (hi : i ≤ b.length) : b.drop i = b.drop (b.length - (b.drop i).length) := by
  rw [List.length_drop, show b.length - (b.length - i) = i by omega]

theorem after_law {bs : List (List ByteArray)} {limit : Nat} (h : IsSet bs limit) {p x : ByteArray} {fs : List ByteArray} {rs : List (List ByteArray)} {q : ByteArray} (hA : AfterP bs p x fs rs q) {t : Nat} (ht : Scan bs.flatten x t) : AfterLaw bs p x fs rs q t := by
  rcases hA with ⟨hc, rfl, rfl, rfl⟩ | ⟨k, i, f, hk, hc, hi, hf, rfl, hfs, hrs⟩
  · -- all names sort before x
    have hall : ∀ y ∈ bs.flatten, ltB y x := by have := before_lt h hc; rwa [List.take_length] at this
    have htN : t = bs.flatten.length := scan_eq ht (Nat.le_refl _) (fun y hy => ltB_asymm (hall y (List.mem_of_mem_take hy))) (fun y hy => by rw [List.drop_length] at hy; cases hy)
    refine ⟨fun _ => rfl, fun hn => ?_, fun _ => ⟨rfl, rfl⟩, fun hn => absurd (.inl htN) hn⟩
    by_cases h0 : bs.flatten.length = 0
    · exact absurd (.inl h0) hn
    · exact absurd (.inr (hall _ (getD_mem (by omega)))) hn
  · obtain ⟨hle, hb, ha⟩ := part_at h hk hc hi hf
    generalize (if f then i + 1 else i) = j at *
    obtain ⟨e1, e2⟩ := flat_at hk hle
    have hP : (bs.take k).flatten.length + j ≤ bs.flatten.length := by
      have h1 : bs.flatten.length = (bs.flatten.take ((bs.take k).flatten.length + j)).length + (bs.flatten.drop ((bs.take k).flatten.length + j)).length := by
        rw [← List.length_append, List.take_append_drop]
      have h2 : (bs.flatten.take ((bs.take k).flatten.length + j)).length = (bs.take k).flatten.length + j := by rw [e1, List.length_append, List.length_take]; omega
      omega
    have htP : t = (bs.take k).flatten.length + j := scan_eq ht hP (by rw [e1]; exact hb) (by rw [e2]; exact ha)
    rw [← htP] at e1 e2
    have hne : ∀ b ∈ bs.drop (k + 1), 0 < b.length := fun b hb => (h.1 b (List.mem_of_mem_drop hb)).1
    have hstep := step_flat ((bs.getD k []).drop j) (bs.drop (k + 1))
    have hnil := step_nil ((bs.getD k []).drop j) (bs.drop (k + 1)) hne
    rw [← e2] at hstep hnil
    have hfpos : 0 < bs.flatten.length := by
      have : 0 < (bs.getD k []).length := (h.1 _ (getD_mem hk)).1
      have := flat_le2 bs k hk
      omega
    refine ⟨fun hor => ?_, fun _ => rfl, fun hor => ?_, fun hor => ?_⟩
    · exfalso
      rcases hor with h0 | h0
      · omega
      · -- the last name sorts not before x
        have hlast : ¬ ltB (lastOf (bs.getD k [])) x := hc.no k (Nat.le_refl _) hk
        have hmem : lastOf (bs.getD k []) ∈ bs.flatten := List.mem_flatten.2 ⟨_, getD_mem hk, last_mem (h.1 _ (getD_mem hk)).1⟩
        rcases last_ge h.2 hmem with he | hl
        · rw [he] at hlast; exact hlast h0
        · exact hlast (ltB_trans _ _ _ hl h0)
    · -- nothing to yield
      have hkeep : settleF ((bs.getD k []).drop j) (bs.drop (k + 1)) q = ([], []) := by
        unfold settleF keepF
        rcases hq : (stepF ((bs.getD k []).drop j) (bs.drop (k + 1))).1 with _ | ⟨y, l⟩
        · obtain ⟨_, h2⟩ := hnil hq
          rw [if_neg (by simp)]
          exact Prod.ext hq h2
        · rcases hor with hor | hor
          · rw [hor, List.drop_length] at hstep
            rw [hq] at hstep
            simp at hstep
          · rw [hq, List.cons_append] at hstep
            rw [getD_of_drop hstep.symm] at hor
            rw [if_pos]
            simp [hor]
      rw [hfs, hrs, hkeep]
      exact ⟨rfl, rfl⟩
    · have hkeep : settleF ((bs.getD k []).drop j) (bs.drop (k + 1)) q = stepF ((bs.getD k []).drop j) (bs.drop (k + 1)) := by
        unfold settleF keepF
        rw [if_neg]
        rintro ⟨h1, h2⟩
        apply hor
        refine .inr ?_
        rcases hq : (stepF ((bs.getD k []).drop j) (bs.drop (k + 1))).1 with _ | ⟨y, l⟩
        · rw [hq] at h1; simp at h1
        · rw [hq, List.cons_append] at hstep
          rw [getD_of_drop hstep.symm]
          rw [hq] at h2
          simpa using h2
      rw [hkeep] at hfs hrs
      have hpos : 0 < fs.length := by
        rcases hq : (stepF ((bs.getD k []).drop j) (bs.drop (k + 1))).1 with _ | ⟨y, l⟩
        · obtain ⟨h1, _⟩ := hnil hq
          have : t = bs.flatten.length := by
            have h4 := congrArg List.length h1
            simp only [List.length_drop, List.length_nil] at h4
            have := ht.le
            omega
          exact absurd (.inl this) hor
        · rw [hfs, hq]; simp
      refine ⟨hpos, rfl, by rw [hfs, hrs]; exact hstep.symm, ?_⟩
      by_cases hs : ((bs.getD k []).drop j).length = 0 ∧ 0 < (bs.drop (k + 1)).length
      · have es : stepF ((bs.getD k []).drop j) (bs.drop (k + 1)) = ((bs.drop (k + 1)).getD 0 [], (bs.drop (k + 1)).drop 1) := by rw [stepF, if_pos hs]
        have hk1 : k + 1 < bs.length := by have := hs.2; simp at this; omega
        have eg : (bs.drop (k + 1)).getD 0 [] = bs.getD (k + 1) [] := by simp [List.getD]
        rw [es] at hfs hrs
        simp only at hfs hrs
        rw [eg] at hfs
        refine ⟨k + 2, by omega, by omega, by rw [hrs, List.drop_drop], ?_, ?_⟩
        · rw [show k + 2 - 1 = k + 1 by omega, hfs]; exact Nat.le_refl _
        · rw [show k + 2 - 1 = k + 1 by omega, hfs]; simp
      · have es : stepF ((bs.getD k []).drop j) (bs.drop (k + 1)) = ((bs.getD k []).drop j, bs.drop (k + 1)) := by rw [stepF, if_neg hs]
        rw [es] at hfs hrs
        simp only at hfs hrs
        refine ⟨k + 1, by omega, by omega, hrs, ?_, ?_⟩
        · rw [Nat.add_sub_cancel, hfs, List.length_drop]; omega
        · rw [Nat.add_sub_cancel, hfs]; exact suffix_form hle

end Go.Proofs.Qxb6605445a
