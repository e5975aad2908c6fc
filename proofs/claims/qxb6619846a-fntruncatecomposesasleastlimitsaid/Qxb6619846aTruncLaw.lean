/-
  FnTruncateComposesAsLeastLimit: the walk.
-/
import Derived.Test.Qxb6619846aTrunc
import Derived.Deep.DeepCutAuto
namespace Go.Proofs.Qxb6619846a
open Go.RowKit

theorem cut_bytes (s : ByteArray) (e : Nat) : ∀ k (h1 : k < (s.extract 0 e).size) (h2 : k < s.size), (s.extract 0 e)[k] = s[k] := by
  intro k h1 h2
  simp [ByteArray.getElem_extract]

set_option maxRecDepth 100000 in
set_option maxHeartbeats 1600000 in
theorem trunc_law (s : ByteArray) (n m : Int) (w : World) (hn : -9223372036854775808 ≤ n ∧ n ≤ 9223372036854775807) (hm : -9223372036854775808 ≤ m ∧ m ≤ 9223372036854775807) :
    Calls Try.prog 3 #[.string s, .int .i64 n, .int .i64 m] w fun e w' => e = .returned (.bool true) ∧ Below w.heap.size w w' := by
  by_cases hs : s.size ≤ 1048576
  case neg =>
    go_enter Try.func3, Try.ntmps3
    go_wp2_with fail
    refine (bytes_any s n m w false (by simp; omega)).mono ?_
    rintro e w' ⟨rfl, rfl⟩
    go_wp2
    go_ret
    exact ⟨rfl, Below.refl _ _⟩
  obtain ⟨k, hk⟩ : ∃ k, k = if 0 ≤ n ∧ (m < 0 ∨ n < m) then n else m := ⟨_, rfl⟩
  have hkb : -9223372036854775808 ≤ k ∧ k ≤ 9223372036854775807 := by rw [hk]; split <;> omega
  have HK := hide (show trunc (trunc s n) m = trunc s k by rw [hk]; exact trunc_trunc s n m)
  obtain ⟨te, hte, htr⟩ := trunc_size s n
  obtain ⟨t, ht⟩ : ∃ t, t = trunc s n := ⟨_, rfl⟩
  have htz : t.size ≤ s.size := by rw [ht, htr, size_cut s te hte]; exact hte
  have HP := hide (show ∀ k (h1 : k < t.size) (h2 : k < s.size), t[k] = s[k] by rw [ht, htr]; exact cut_bytes s te)
  have HN := hide (show n < 0 → (t.toList == s.toList) = true from fun h => by rw [ht, trunc_neg s h]; simp)
  have HT := hide ht
  rw [← ht] at HK
  clear ht htr hte
  have HC := hide hk
  clear hk
  have HL := hide (trunc_len s)
  have HZ := hide (trunc_zero s)
  have cs : (n < 0 ∧ k = m) ∨ (0 ≤ n ∧ m < 0 ∧ k = n) ∨ (0 ≤ n ∧ 0 ≤ m ∧ n < m ∧ k = n) ∨ (0 ≤ n ∧ 0 ≤ m ∧ m ≤ n ∧ k = m) := by
    have := HC.out
    split at this <;> omega
  rcases cs with ⟨h1, rfl⟩ | ⟨h1, h2, rfl⟩ | ⟨h1, h2, h3, rfl⟩ | ⟨h1, h2, h3, rfl⟩
  all_goals
    clear HC
    go_enter Try.func3, Try.ntmps3
    go_wp2_with fail
    refine (bytes_any s _ _ w true (by simp; omega)).mono ?_
    rintro e w' ⟨rfl, rfl⟩
    go_wp2_with fail
    refine (zztruncate_any s _ w hs (by omega)).mono ?_
    rintro e w1 ⟨rfl, hb1⟩
    rw [← HT.out]
    go_wp2_with fail
    refine (zztruncate_any t _ w1 (by omega) (by omega)).mono ?_
    rintro e w2 ⟨rfl, hb2⟩
    rw [HK.out]
    go_wp2_with fail
    refine (zztruncate_any s _ w2 hs (by omega)).mono ?_
    rintro e w3 ⟨rfl, hb3⟩
    generalize trunc s _ = y
    go_wp2_with fail
    refine (prefix_any t s w3 hs htz HP.out).mono ?_
    rintro e w4 ⟨rfl, hb4⟩
    try (have hts := HN.out h1)
    have hss : (s.toList == s.toList) = true := by simp
    go_wp2_with fail
    refine (zztruncate_any s _ w4 hs (by omega)).mono ?_
    rintro e w5 ⟨rfl, hb5⟩
    rw [HL.out]
    go_wp2_with fail
    refine (zztruncate_any s _ w5 hs (by omega)).mono ?_
    rintro e w6 ⟨rfl, hb6⟩
    rw [HZ.out]
    go_wp2
    go_ret
    have s1 := hb1.size
    have s2 := hb2.size
    have s3 := hb3.size
    have s4 := hb4.size
    have s5 := hb5.size
    exact ⟨rfl, ((((hb1.trans (hb2.mono (by omega))).trans (hb3.mono (by omega))).trans (hb4.mono (by omega))).trans (hb5.mono (by omega))).trans (hb6.mono (by omega))⟩

end Go.Proofs.Qxb6619846a
