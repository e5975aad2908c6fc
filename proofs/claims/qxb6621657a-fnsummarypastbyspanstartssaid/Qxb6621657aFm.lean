/-
  PLAIN: the distinct names in the order of their first meeting.
-/
import Derived.Test.Qxb6621657aTbl
namespace Go.Proofs.Qxb6621657a

open Classical in
theorem fm_exists (ss : Nat → ByteArray) : ∃ fm : Nat → List ByteArray, fm 0 = [] ∧ ∀ k, (ss k ∈ fm k ∧ fm (k + 1) = fm k) ∨ (ss k ∉ fm k ∧ fm (k + 1) = fm k ++ [ss k]) := by
  refine ⟨fun k => Nat.rec [] (fun k l => if ss k ∈ l then l else l ++ [ss k]) k, rfl, fun k => ?_⟩
  by_cases h : ss k ∈ (Nat.rec [] (fun k l => if ss k ∈ l then l else l ++ [ss k]) k : List ByteArray)
  · exact Or.inl ⟨h, if_pos h⟩
  · exact Or.inr ⟨h, if_neg h⟩

/-- fm k: the distinct names among the first k of ss, in the order of their first meeting -/
def Met (ss : Nat → ByteArray) (fm : Nat → List ByteArray) : Prop := fm 0 = [] ∧ ∀ k, (ss k ∈ fm k ∧ fm (k + 1) = fm k) ∨ (ss k ∉ fm k ∧ fm (k + 1) = fm k ++ [ss k])

theorem Met.nodup {ss : Nat → ByteArray} {fm : Nat → List ByteArray} (h : Met ss fm) (k : Nat) : (fm k).Nodup := by
  induction k with
  | zero => rw [h.1]; exact List.nodup_nil
  | succ k ih =>
    rcases h.2 k with ⟨_, e⟩ | ⟨hn, e⟩
    · rw [e]; exact ih
    · rw [e, List.nodup_append]
      refine ⟨ih, by simp, fun x hx y hy e => ?_⟩
      simp at hy
      subst hy
      exact hn (e ▸ hx)
theorem Met.len {ss : Nat → ByteArray} {fm : Nat → List ByteArray} (h : Met ss fm) (k : Nat) : (fm k).length ≤ k := by
  induction k with
  | zero => rw [h.1]; exact Nat.le_refl _
  | succ k ih =>
    rcases h.2 k with ⟨_, e⟩ | ⟨hn, e⟩
    · rw [e]; omega
    · rw [e]; simp; omega
theorem Met.mem {ss : Nat → ByteArray} {fm : Nat → List ByteArray} (h : Met ss fm) (k : Nat) {s : ByteArray} (hs : s ∈ fm k) : ∃ t, t < k ∧ ss t = s := by
  induction k with
  | zero => rw [h.1] at hs; simp at hs
  | succ k ih =>
    rcases h.2 k with ⟨_, e⟩ | ⟨hn, e⟩
    · rw [e] at hs
      obtain ⟨t, ht, he⟩ := ih hs
      exact ⟨t, by omega, he⟩
    · rw [e] at hs
      rcases List.mem_append.1 hs with h' | h'
      · obtain ⟨t, ht, he⟩ := ih h'
        exact ⟨t, by omega, he⟩
      · simp at h'
        exact ⟨k, by omega, h'.symm⟩
/-- what stands at a place stays there -/
theorem Met.stay {ss : Nat → ByteArray} {fm : Nat → List ByteArray} (h : Met ss fm) {k i : Nat} {s : ByteArray} (hi : (fm k)[i]? = some s) : (fm (k + 1))[i]? = some s := by
  rcases h.2 k with ⟨_, e⟩ | ⟨hn, e⟩
  · rw [e]; exact hi
  · rw [e, List.getElem?_append_left (List.getElem?_eq_some_iff.1 hi).1]
    exact hi
theorem Met.stays {ss : Nat → ByteArray} {fm : Nat → List ByteArray} (h : Met ss fm) {k i : Nat} {s : ByteArray} (hi : (fm k)[i]? = some s) : ∀ d, (fm (k + d))[i]? = some s
  | 0 => hi
  | d + 1 => h.stay (h.stays hi d)
theorem Met.place {ss : Nat → ByteArray} {fm : Nat → List ByteArray} (h : Met ss fm) {k i j : Nat} {s : ByteArray} (hi : (fm k)[i]? = some s) (hj : (fm k)[j]? = some s) : i = j := by
  obtain ⟨hi1, hi2⟩ := List.getElem?_eq_some_iff.1 hi
  obtain ⟨hj1, hj2⟩ := List.getElem?_eq_some_iff.1 hj
  have hp := List.pairwise_iff_getElem.1 (h.nodup k)
  rcases Nat.lt_trichotomy i j with hlt | he | hlt
  · exact absurd (hi2.trans hj2.symm) (hp i j hi1 hj1 hlt)
  · exact he
  · exact absurd (hj2.trans hi2.symm) (hp j i hj1 hi1 hlt)

/-- f: the numbers wanted of the first k names -/
def Want (ss : Nat → ByteArray) (fm : Nat → List ByteArray) (f : Nat → Nat) (k : Nat) : Prop := ∀ j, j < k → (fm k)[f j]? = some (ss j)

theorem Want.old {ss : Nat → ByteArray} {fm : Nat → List ByteArray} {f : Nat → Nat} {k m : Nat} (h : Met ss fm) (hf : Want ss fm f k) (hm : m < k) (he : ss m = ss k) : fm (k + 1) = fm k ∧ Want ss fm (fun j => if j = k then f m else f j) (k + 1) := by
  have hin : ss k ∈ fm k := he ▸ List.mem_of_getElem? (hf m hm)
  have e : fm (k + 1) = fm k := by
    rcases h.2 k with ⟨_, e⟩ | ⟨hn, _⟩
    · exact e
    · exact absurd hin hn
  refine ⟨e, fun j hj => ?_⟩
  rw [e]
  by_cases hjk : j = k
  · subst hjk
    simp only [if_true]
    rw [hf m hm, he]
  · simp only [if_neg hjk]
    exact hf j (by omega)
theorem Want.new {ss : Nat → ByteArray} {fm : Nat → List ByteArray} {f : Nat → Nat} {k : Nat} (h : Met ss fm) (hf : Want ss fm f k) (hne : ∀ t, t < k → ss t ≠ ss k) : (fm (k + 1)).length = (fm k).length + 1 ∧ Want ss fm (fun j => if j = k then (fm k).length else f j) (k + 1) := by
  have e : fm (k + 1) = fm k ++ [ss k] := by
    rcases h.2 k with ⟨hin, _⟩ | ⟨_, e⟩
    · obtain ⟨t, ht, he⟩ := h.mem k hin
      exact absurd he (hne t ht)
    · exact e
  refine ⟨by rw [e]; simp, fun j hj => ?_⟩
  by_cases hjk : j = k
  · subst hjk
    simp only [if_true]
    rw [e]
    simp
  · simp only [if_neg hjk]
    exact h.stay (hf j (by omega))
/-- the table's answer is the number wanted -/
theorem Want.hit {ss : Nat → ByteArray} {fm : Nat → List ByteArray} {f : Nat → Nat} {n t i : Nat} (h : Met ss fm) (hf : Want ss fm f n) (ht : t < n) (hi : (fm (t + 1))[i]? = some (ss t)) : i = f t := by
  have h1 := h.stays hi (n - (t + 1))
  rw [show t + 1 + (n - (t + 1)) = n by omega] at h1
  exact h.place h1 (hf t ht)
/-- what ZZNamesNumber leaves is the next list -/
theorem Met.next {ss : Nat → ByteArray} {fm : Nat → List ByteArray} (h : Met ss fm) {t i : Nat} {ms' : List ByteArray} (hi : ms'[i]? = some (ss t)) (hms : ms' = fm t ∨ (ss t ∉ fm t ∧ ms' = fm t ++ [ss t])) : ms' = fm (t + 1) := by
  rcases hms with rfl | ⟨hn, rfl⟩
  · rcases h.2 t with ⟨_, e⟩ | ⟨hn, _⟩
    · exact e.symm
    · exact absurd (List.mem_of_getElem? hi) hn
  · rcases h.2 t with ⟨hin, _⟩ | ⟨_, e⟩
    · exact absurd hin hn
    · exact e.symm

/-- a slice of names that came in -/
def IsStrs (w : World) (a : Option Addr) (n : Nat) (ss : Nat → ByteArray) : Prop :=
  0 < n → ∃ b off, a = some ⟨b, off, none⟩ ∧ b < w.heap.size ∧ ∀ i, i < n → w.cell? ⟨b, off + i, none⟩ = some (.string (ss i)) ∧ (ss i).size ≤ maxLen
/-- a slice of int32s that came in -/
def IsI32s (w : World) (a : Option Addr) (n : Nat) (z : Nat → Int) : Prop :=
  0 < n → ∃ b off, a = some ⟨b, off, none⟩ ∧ b < w.heap.size ∧ ∀ i, i < n → w.cell? ⟨b, off + i, none⟩ = some (.int .i32 (z i)) ∧ (-2147483648 ≤ z i ∧ z i ≤ 2147483647)

end Go.Proofs.Qxb6621657a
