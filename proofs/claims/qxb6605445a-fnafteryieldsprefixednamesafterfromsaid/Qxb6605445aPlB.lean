/-
  The plain law of what 'after''s run yields.
-/
import Derived.Test.Qxb6605445aPlA
import Derived.Test.Qxb6605445aWkK
namespace Go.Proofs.Qxb6605445a
set_option linter.unusedVariables false
set_option linter.unusedSimpArgs false

theorem hp_iff (s p : ByteArray) : hp s p = true ↔ p.toList <+: s.toList := by
  rw [Lib.toList_data, Lib.toList_data]
  unfold hp
  rw [decide_eq_true_iff]
  constructor
  · rintro ⟨h1, h2⟩
    rw [← h2, Lib.extract_data]
    simp
    exact List.take_prefix _ _
  · intro h
    have hl := h.length_le
    refine ⟨by simpa using hl, ?_⟩
    apply toList_inj
    rw [Lib.toList_data, Lib.toList_data, Lib.extract_data]
    have h2 := List.prefix_iff_eq_take.1 h
    simp at h2 ⊢
    exact h2.symm

theorem between : ∀ (p x y z : List UInt8), p <+: x → p <+: z → x < y → y < z → p <+: y
  | [], _, _, _, _, _, _, _ => List.nil_prefix
  | c :: p, x, y, z, hx, hz, hxy, hyz => by
    obtain ⟨x', rfl⟩ := hx
    obtain ⟨z', rfl⟩ := hz
    cases y with
    | nil => simp at hxy
    | cons d y =>
      simp only [List.cons_append, List.cons_lt_cons_iff] at hxy hyz
      have hcd : c = d := by
        rcases hxy with h | ⟨h, _⟩
        · rcases hyz with k | ⟨k, _⟩
          · exact absurd (UInt8.lt_trans h k) (UInt8.lt_irrefl _)
          · exact k.symm
        · exact h
      subst hcd
      have h1 : p ++ x' < y := by
        rcases hxy with h | ⟨_, h⟩
        · exact absurd h (UInt8.lt_irrefl _)
        · exact h
      have h2 : y < p ++ z' := by
        rcases hyz with h | ⟨_, h⟩
        · exact absurd h (UInt8.lt_irrefl _)
        · exact h
      exact List.cons_prefix_cons.2 ⟨rfl, between p _ y _ (List.prefix_append _ _) (List.prefix_append _ _) h1 h2⟩

theorem hp_between {p x y z : ByteArray} (hx : hp x p = true) (hz : hp z p = true) (h1 : ltB x y) (h2 : ltB y z) : hp y p = true := by
  rw [hp_iff] at *
  rw [ltB_iff] at h1 h2
  exact between _ _ _ _ hx hz h1 h2

theorem getElem_getD {α : Type} (l : List α) (i : Nat) (h : i < l.length) (d : α) : l[i] = l.getD i d := by simp [List.getD, h]

/-- Does y sort behind x and begin with p? -/
def wanted (p x y : ByteArray) : Bool := Op.bytesLess x.toList y.toList && hp y p

theorem scan_exists (F : List ByteArray) (x : ByteArray) : ∃ t, Scan F x t := by
  induction F with
  | nil => exact ⟨0, Nat.le_refl _, fun i hi => absurd hi (Nat.not_lt_zero _), fun h => absurd h (Nat.not_lt_zero _)⟩
  | cons y F ih =>
    by_cases h : ltB x y
    · exact ⟨0, Nat.zero_le _, fun i hi => absurd hi (Nat.not_lt_zero _), fun _ => by simpa using h⟩
    · obtain ⟨t, ht⟩ := ih
      refine ⟨t + 1, by have := ht.le; simp; omega, fun i hi => ?_, fun hl => ?_⟩
      · cases i with
        | zero => simpa using h
        | succ i => have := ht.no i (by omega); simpa using this
      · have := ht.yes (by simp at hl; omega)
        simpa using this

/-- Of an increasing list of names behind x, x led by p: those that p leads stand ahead. -/
theorem filter_run {p x : ByteArray} (hx : hp x p = true) : ∀ (D : List ByteArray), D.Pairwise ltB → (∀ y ∈ D, ltB x y) → D.filter (wanted p x) = D.takeWhile fun y => hp y p
  | [], _, _ => rfl
  | y :: D, hd, ha => by
    have hxy := ha y (by simp)
    have hw : wanted p x y = hp y p := by unfold wanted; rw [show Op.bytesLess x.toList y.toList = true from hxy]; rfl
    have hd' := List.pairwise_cons.1 hd
    cases hy : hp y p with
    | true =>
      rw [List.filter_cons_of_pos (by rw [hw, hy]), List.takeWhile_cons_of_pos (by simpa using hy), filter_run hx D hd'.2 (fun z hz => ha z (by simp [hz]))]
    | false =>
      rw [List.takeWhile_cons_of_neg (by simp [hy]), List.filter_eq_nil_iff]
      intro z hz
      rcases List.mem_cons.1 hz with rfl | hz
      · rw [hw, hy]; simp
      · intro hwz
        unfold wanted at hwz
        rw [Bool.and_eq_true] at hwz
        have := hp_between hx hwz.2 hxy (hd'.1 z hz)
        rw [hy] at this
        cases this

/-- What the run yields, read as its documentation says. -/
def gotF (q : ByteArray) (fs : List ByteArray) (rs : List (List ByteArray)) : List ByteArray := if fs.length = 0 then [] else yieldF q (fs ++ rs.flatten)

theorem yields_law {bs : List (List ByteArray)} {limit : Nat} (h : IsSet bs limit) {p x : ByteArray} (hx : hp x p = true) {fs : List ByteArray} {rs : List (List ByteArray)} {q : ByteArray} (hA : AfterP bs p x fs rs q) :
    gotF q fs rs = (bs.flatten.filter (wanted p x)).map (strip p) := by
  obtain ⟨t, ht⟩ := scan_exists bs.flatten x
  have L := after_law h hA ht
  have hsplit : bs.flatten = bs.flatten.take t ++ bs.flatten.drop t := (List.take_append_drop _ _).symm
  have hpw := h.2
  rw [hsplit, List.pairwise_append] at hpw
  have hfirst : (bs.flatten.take t).filter (wanted p x) = [] := by
    rw [List.filter_eq_nil_iff]
    intro y hy hw
    obtain ⟨i, hi, rfl⟩ := List.getElem_of_mem hy
    have hi' : i < t ∧ i < bs.flatten.length := by rw [List.length_take] at hi; omega
    have := ht.no i hi'.1
    unfold wanted at hw
    rw [Bool.and_eq_true] at hw
    apply this
    have h2 : (bs.flatten.take t)[i] = bs.flatten.getD i ByteArray.empty := by rw [List.getElem_take, getElem_getD]
    rw [← h2]
    exact hw.1
  have hall : ∀ y ∈ bs.flatten.drop t, ltB x y := by
    intro y hy
    obtain ⟨j, hj, hjl, rfl⟩ := mem_drop_getD ByteArray.empty hy
    have h0 := ht.yes (by omega)
    by_cases he : t = j
    · subst he; exact h0
    · exact ltB_trans _ _ _ h0 (pw_getD h.2 (by omega) hjl)
  have hD := filter_run hx _ hpw.2.1 hall
  have hR : (bs.flatten.filter (wanted p x)) = (bs.flatten.drop t).takeWhile fun y => hp y p := by
    conv => lhs; rw [hsplit]
    rw [List.filter_append, hfirst, List.nil_append, hD]
  rw [hR]
  by_cases hor : t = bs.flatten.length ∨ hp (bs.flatten.getD t ByteArray.empty) p = false
  · obtain ⟨rfl, rfl⟩ := L.none hor
    have : (bs.flatten.drop t).takeWhile (fun y => hp y p) = [] := by
      rcases hor with hor | hor
      · rw [hor, List.drop_length]; rfl
      · by_cases hlt : t < bs.flatten.length
        · rw [List.drop_eq_getElem_cons hlt]
          rw [getElem_getD _ t hlt ByteArray.empty, List.takeWhile_cons_of_neg (by simp only [hor]; simp)]
        · rw [List.drop_of_length_le (by omega)]; rfl
    rw [this]
    rfl
  · obtain ⟨hpos, rfl, hdrop, _⟩ := L.some hor
    rw [gotF, if_neg (by omega), hdrop]
    rfl

end Go.Proofs.Qxb6605445a
