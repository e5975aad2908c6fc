/-
  strings.TrimPrefix, strings.TrimSuffix: laid by the shelf's contract.sh for this program; the false neighbours struck.
-/
import Derived.Test.Qxb6618014aProg
import Derived.Lib.Slices
import Derived.Lib.Strings
import Derived.Lib.Walk
namespace Go.Proofs


set_option maxHeartbeats 1000000 in
/-- strings.TrimPrefix: "TrimPrefix returns s without the provided leading prefix string. If s doesn't start with prefix, s is returned unchanged.": IT RETURNS 'Lib.trimPrefix s prefix'; the world is as it was. -/
theorem Try.strings_TrimPrefix (s p : ByteArray) (w : World) :
    Calls Try.prog 26 #[.string s, .string p] w fun e w' => e = .returned (.string ⟨(Lib.trimPrefix s.data.toList p.data.toList).toArray⟩) ∧ w' = w := by
  go_enter Try.func26, Try.ntmps26
  go_wp2
  · have h1 : p.size ≤ s.size := by assumption
    have h2 : ((s.extract 0 p.size).toList == p.toList) = true := by assumption
    go_ret
    refine ⟨?_, rfl⟩
    rw [Lib.trimPrefix_hit s p h1 h2]
    rfl
  · have h2 : ((s.extract 0 p.size).toList == p.toList) = false := by assumption
    go_ret
    refine ⟨?_, rfl⟩
    rw [Lib.trimPrefix_miss s p (by rw [h2]; simp)]
    rfl
  · have h1 : ¬ p.size ≤ s.size := by assumption
    go_ret
    refine ⟨?_, rfl⟩
    rw [Lib.trimPrefix_miss s p (by simp [h1])]
    rfl



set_option maxHeartbeats 1000000 in
/-- strings.TrimSuffix: "TrimSuffix returns s without the provided trailing suffix string. If s doesn't end with suffix, s is returned unchanged.": IT RETURNS 'Lib.trimSuffix s suffix'; the world is as it was. -/
theorem Try.strings_TrimSuffix (s p : ByteArray) (w : World) (hs : s.size ≤ 9223372036854775807) :
    Calls Try.prog 27 #[.string s, .string p] w fun e w' => e = .returned (.string ⟨(Lib.trimSuffix s.data.toList p.data.toList).toArray⟩) ∧ w' = w := by
  have hlo : p.size ≤ s.size → ((s.size : Int) - (p.size : Int) + 9223372036854775808) % 18446744073709551616 - 9223372036854775808 = ((s.size - p.size : Nat) : Int) := fun _ => by omega
  go_enter Try.func27, Try.ntmps27
  go_wp2
  · have h1 : p.size ≤ s.size := by assumption
    have h2 : ((s.extract (s.size - p.size) s.size).toList == p.toList) = true := by assumption
    go_ret
    refine ⟨?_, rfl⟩
    rw [Lib.trimSuffix_hit s p h1 h2]
    rfl
  · have h2 : ((s.extract (s.size - p.size) s.size).toList == p.toList) = false := by assumption
    go_ret
    refine ⟨?_, rfl⟩
    rw [Lib.trimSuffix_miss s p (by rw [h2]; simp)]
    rfl
  · have h1 : ¬ p.size ≤ s.size := by assumption
    go_ret
    refine ⟨?_, rfl⟩
    rw [Lib.trimSuffix_miss s p (by simp [h1])]
    rfl

end Go.Proofs
