/-
  PLAIN: where a range over a string stands after k rounds, and what cutting there does.
-/
import Derived.Laws.RangeAny
namespace Go.Proofs.Qxb6619846a

/-- how many bytes the rune at i takes -/
def wid (s : ByteArray) (i : Nat) : Nat := (Utf8.decode s i).2

/-- the place after k runes -/
def posAt (s : ByteArray) : Nat → Nat
  | 0 => 0
  | k + 1 => if posAt s k < s.size then posAt s k + wid s (posAt s k) else posAt s k

theorem wid_bounds (s : ByteArray) (i : Nat) (h : i < s.size) : 1 ≤ wid s i ∧ i + wid s i ≤ s.size := by
  unfold wid
  simp only [Utf8.decode]
  repeat' split
  all_goals simp_all
  all_goals omega

theorem posAt_le (s : ByteArray) (k : Nat) : posAt s k ≤ s.size := by
  induction k with
  | zero => exact Nat.zero_le _
  | succ k ih =>
    show (if posAt s k < s.size then _ else _) ≤ _
    split
    · rename_i h
      exact (wid_bounds s _ h).2
    · exact ih
theorem posAt_step (s : ByteArray) (k : Nat) (h : posAt s k < s.size) : posAt s (k + 1) = posAt s k + wid s (posAt s k) := by
  show (if posAt s k < s.size then _ else _) = _
  rw [if_pos h]
theorem posAt_mono (s : ByteArray) {a b : Nat} (h : a ≤ b) : posAt s a ≤ posAt s b := by
  induction b with
  | zero => have : a = 0 := by omega
            subst this; exact Nat.le_refl _
  | succ b ih =>
    by_cases e : a = b + 1
    · subst e; exact Nat.le_refl _
    · have := ih (by omega)
      show _ ≤ (if posAt s b < s.size then _ else _)
      split <;> omega
/-- k rounds have passed k bytes or are at the end -/
theorem posAt_ge (s : ByteArray) (k : Nat) : k ≤ posAt s k ∨ posAt s k = s.size := by
  induction k with
  | zero => exact Or.inl (Nat.le_refl _)
  | succ k ih =>
    have hle := posAt_le s k
    by_cases h : posAt s k < s.size
    · have := (wid_bounds s _ h)
      rw [posAt_step s k h]
      rcases ih with ih | ih
      · exact Or.inl (by omega)
      · omega
    · right
      show (if posAt s k < s.size then _ else _) = _
      rw [if_neg h]
      omega

theorem size_cut (s : ByteArray) (e : Nat) (h : e ≤ s.size) : (s.extract 0 e).size = e := by
  simp [ByteArray.size_extract]; omega

theorem get_cut (s : ByteArray) (e j : Nat) (h : j < e) (he : e ≤ s.size) : (s.extract 0 e).get! j = s.get! j := by
  have h1 : j < (s.extract 0 e).size := by rw [size_cut s e he]; exact h
  have h2 : j < s.size := by omega
  have e1 : (s.extract 0 e).get! j = (s.extract 0 e)[j] := get_at (s.extract 0 e) j h1
  have e2 : s.get! j = s[j] := get_at s j h2
  rw [e1, e2]
  simp [ByteArray.getElem_extract]

/-- the same as a function of four bytes and of which of them are there -/
def widN (b0 b1 b2 b3 : Nat) (c1 c2 c3 : Bool) : Nat :=
  if b0 < 0x80 then 1
  else if b0 / 32 == 6 && (c1 && b1 / 64 == 2) then (if (b0 % 32) * 64 + b1 % 64 ≥ 0x80 then 2 else 1)
  else if b0 / 16 == 14 && (c1 && b1 / 64 == 2) && (c2 && b2 / 64 == 2) then (if (b0 % 16) * 4096 + (b1 % 64) * 64 + b2 % 64 ≥ 0x800 && Utf8.valid ((b0 % 16) * 4096 + (b1 % 64) * 64 + b2 % 64 : Nat) then 3 else 1)
  else if b0 / 8 == 30 && (c1 && b1 / 64 == 2) && (c2 && b2 / 64 == 2) && (c3 && b3 / 64 == 2) then (if (b0 % 8) * 262144 + (b1 % 64) * 4096 + (b2 % 64) * 64 + b3 % 64 ≥ 0x10000 && Utf8.valid ((b0 % 8) * 262144 + (b1 % 64) * 4096 + (b2 % 64) * 64 + b3 % 64 : Nat) then 4 else 1)
  else 1

theorem wid_eq (s : ByteArray) (i : Nat) : wid s i = widN (s.get! (i + 0)).toNat (s.get! (i + 1)).toNat (s.get! (i + 2)).toNat (s.get! (i + 3)).toNat (decide (i + 1 < s.size)) (decide (i + 2 < s.size)) (decide (i + 3 < s.size)) := by
  unfold wid widN
  simp only [Utf8.decode, apply_ite Prod.snd]

theorem widN_three (b0 b1 b2 b3 b3' : Nat) (c3 : Bool) (hw : widN b0 b1 b2 b3 true true c3 ≤ 3) : widN b0 b1 b2 b3' true true false = widN b0 b1 b2 b3 true true c3 := by
  unfold widN at hw ⊢
  by_cases h0 : b0 < 0x80
  · rw [if_pos h0, if_pos h0]
  rw [if_neg h0] at hw ⊢
  rw [if_neg h0]
  by_cases h1 : (b0 / 32 == 6 && (true && b1 / 64 == 2)) = true
  · rw [if_pos h1, if_pos h1]
  rw [if_neg h1] at hw ⊢
  rw [if_neg h1]
  by_cases h2 : (b0 / 16 == 14 && (true && b1 / 64 == 2) && (true && b2 / 64 == 2)) = true
  · rw [if_pos h2, if_pos h2]
  rw [if_neg h2] at hw ⊢
  rw [if_neg h2, if_neg (by simp)]
  split at hw
  · split at hw
    · omega
    · rename_i h3 h4
      rw [if_pos h3, if_neg h4]
  · rename_i h3
    rw [if_neg h3]

theorem widN_two (b0 b1 b2 b3 b2' b3' : Nat) (c2 c3 c3' : Bool) (hw : widN b0 b1 b2 b3 true c2 c3 ≤ 2) : widN b0 b1 b2' b3' true false c3' = widN b0 b1 b2 b3 true c2 c3 := by
  unfold widN at hw ⊢
  by_cases h0 : b0 < 0x80
  · rw [if_pos h0, if_pos h0]
  rw [if_neg h0] at hw ⊢
  rw [if_neg h0]
  by_cases h1 : (b0 / 32 == 6 && (true && b1 / 64 == 2)) = true
  · rw [if_pos h1, if_pos h1]
  rw [if_neg h1] at hw ⊢
  rw [if_neg h1, if_neg (by simp), if_neg (by simp)]
  split at hw
  · split at hw
    · omega
    · rename_i h3 h4
      rw [if_pos h3, if_neg h4]
  · rename_i h3
    rw [if_neg h3]
    split at hw
    · split at hw
      · omega
      · rename_i h4 h5
        rw [if_pos h4, if_neg h5]
    · rename_i h4
      rw [if_neg h4]

theorem widN_one (b0 b1 b2 b3 b1' b2' b3' : Nat) (c1 c2 c3 c2' c3' : Bool) (hw : widN b0 b1 b2 b3 c1 c2 c3 ≤ 1) : widN b0 b1' b2' b3' false c2' c3' = widN b0 b1 b2 b3 c1 c2 c3 := by
  have hp : 1 ≤ widN b0 b1 b2 b3 c1 c2 c3 := by
    unfold widN
    repeat' split
    all_goals omega
  have hq : widN b0 b1' b2' b3' false c2' c3' = 1 := by
    unfold widN
    split
    · rfl
    · rw [if_neg (by simp), if_neg (by simp), if_neg (by simp)]
  omega

theorem wid_cut (s : ByteArray) (e i : Nat) (hi : i < e) (he : e ≤ s.size) (hw : i + wid s i ≤ e) : wid (s.extract 0 e) i = wid s i := by
  have hsz := size_cut s e he
  rw [wid_eq s i] at hw ⊢
  rw [wid_eq (s.extract 0 e) i, hsz, get_cut s e (i + 0) (by omega) he]
  by_cases e1 : i + 1 < e
  · rw [get_cut s e (i + 1) e1 he]
    have q1 : decide (i + 1 < s.size) = true := by simp; omega
    have r1 : decide (i + 1 < e) = true := by simp; omega
    rw [q1] at hw ⊢
    rw [r1]
    by_cases e2 : i + 2 < e
    · rw [get_cut s e (i + 2) e2 he]
      have q2 : decide (i + 2 < s.size) = true := by simp; omega
      have r2 : decide (i + 2 < e) = true := by simp; omega
      rw [q2] at hw ⊢
      rw [r2]
      by_cases e3 : i + 3 < e
      · rw [get_cut s e (i + 3) e3 he]
        have q3 : decide (i + 3 < s.size) = true := by simp; omega
        have r3 : decide (i + 3 < e) = true := by simp; omega
        rw [q3, r3]
      · have r3 : decide (i + 3 < e) = false := by simp; omega
        rw [r3]
        exact widN_three _ _ _ _ _ _ (by omega)
    · have r2 : decide (i + 2 < e) = false := by simp; omega
      rw [r2]
      exact widN_two _ _ _ _ _ _ _ _ _ (by omega)
  · have r1 : decide (i + 1 < e) = false := by simp; omega
    rw [r1]
    exact widN_one _ _ _ _ _ _ _ _ _ _ _ _ (by omega)

/-- the runes of a cut are the runes of the whole, up to the cut -/
theorem posAt_cut (s : ByteArray) (n k : Nat) (h : k ≤ n) : posAt (s.extract 0 (posAt s n)) k = posAt s k := by
  have he := posAt_le s n
  have hsz := size_cut s _ he
  induction k with
  | zero => rfl
  | succ k ih =>
    have ih := ih (by omega)
    have hm := posAt_mono s (show k + 1 ≤ n from h)
    show (if posAt (s.extract 0 (posAt s n)) k < (s.extract 0 (posAt s n)).size then posAt (s.extract 0 (posAt s n)) k + wid (s.extract 0 (posAt s n)) (posAt (s.extract 0 (posAt s n)) k) else posAt (s.extract 0 (posAt s n)) k) = if posAt s k < s.size then posAt s k + wid s (posAt s k) else posAt s k
    rw [ih, hsz]
    by_cases h1 : posAt s k < s.size
    · rw [posAt_step s k h1] at hm
      have hwb := wid_bounds s _ h1
      rw [if_pos (by omega), if_pos h1, wid_cut s _ _ (by omega) he (by omega)]
    · have := posAt_mono s (show k ≤ n by omega)
      rw [if_neg h1, if_neg (by omega)]
theorem posAt_past (s : ByteArray) (n k : Nat) (h : n ≤ k) : posAt (s.extract 0 (posAt s n)) k = posAt s n := by
  have he := posAt_le s n
  have hsz := size_cut s _ he
  have h1 := posAt_cut s n n (Nat.le_refl _)
  have h2 := posAt_mono (s.extract 0 (posAt s n)) h
  have h3 := posAt_le (s.extract 0 (posAt s n)) k
  omega

/-- WHAT truncate ANSWERS -/
def trunc (s : ByteArray) (n : Int) : ByteArray := if n < 0 then s else s.extract 0 (posAt s n.toNat)

theorem extract_all (s : ByteArray) : s.extract 0 s.size = s := by
  apply ByteArray.ext
  simp
theorem extract_cut (s : ByteArray) (a b : Nat) (h : a ≤ b) : (s.extract 0 b).extract 0 a = s.extract 0 a := by
  apply ByteArray.ext
  simp [ByteArray.data_extract, Nat.min_eq_left h]

theorem trunc_pos (s : ByteArray) (n : Nat) : trunc s n = s.extract 0 (posAt s n) := by
  unfold trunc
  rw [if_neg (by omega), Int.toNat_natCast]
theorem trunc_neg (s : ByteArray) {n : Int} (h : n < 0) : trunc s n = s := if_pos h

theorem trunc_size (s : ByteArray) (n : Int) : ∃ e, e ≤ s.size ∧ trunc s n = s.extract 0 e := by
  unfold trunc
  split
  · exact ⟨s.size, Nat.le_refl _, (extract_all s).symm⟩
  · exact ⟨_, posAt_le s _, rfl⟩

/-- cutting twice is cutting once, at the tighter limit -/
theorem trunc_trunc (s : ByteArray) (n m : Int) : trunc (trunc s n) m = trunc s (if 0 ≤ n ∧ (m < 0 ∨ n < m) then n else m) := by
  by_cases hn : n < 0
  · rw [trunc_neg s hn, if_neg (by omega)]
  · obtain ⟨a, rfl⟩ := Int.eq_ofNat_of_zero_le (show 0 ≤ n by omega)
    by_cases hm : m < 0
    · rw [trunc_neg _ hm, if_pos (by omega)]
    · obtain ⟨b, rfl⟩ := Int.eq_ofNat_of_zero_le (show 0 ≤ m by omega)
      by_cases hab : a < b
      · rw [if_pos (by omega), trunc_pos, trunc_pos, posAt_past s a b (by omega), extract_cut s _ _ (Nat.le_refl _)]
      · rw [if_neg (by omega), trunc_pos, trunc_pos, trunc_pos, posAt_cut s a b (by omega), extract_cut s _ _ (posAt_mono s (by omega))]
theorem trunc_len (s : ByteArray) : trunc s s.size = s := by
  rw [trunc_pos]
  have h1 := posAt_le s s.size
  have : posAt s s.size = s.size := by
    rcases posAt_ge s s.size with h | h <;> omega
  rw [this, extract_all]
theorem trunc_zero (s : ByteArray) : trunc s 0 = ByteArray.empty := by
  have := trunc_pos s 0
  rw [show ((0 : Nat) : Int) = 0 from rfl] at this
  rw [this]
  apply ByteArray.ext
  simp [posAt]

end Go.Proofs.Qxb6619846a
