/-
  zzBytes_FnNamesNumberByFirstMeeting: the guard.
-/
import Derived.Test.Qxb6621657aFm
namespace Go.Proofs.Qxb6621657a
open Go.RowKit

/-- some bool came back; if it was 'b0', then 'c' -/
def Bl (e : Ending) (b0 : Bool) (c : Prop) : Prop := ∃ b, e = .returned (.bool b) ∧ (b = b0 → c)
theorem Bl.mk {b b0 : Bool} {c : Prop} (h : b = b0 → c) : Bl (.returned (.bool b)) b0 c := ⟨b, rfl, h⟩

set_option maxRecDepth 100000 in
set_option maxHeartbeats 800000 in
theorem bytes_any (a0 a1 : Option Addr) (c0 c1 n m : Nat) (ss : Nat → ByteArray) (w : World) (h0 : IsStrs w a0 n ss) (hm : m ≤ maxLen) :
    Calls Try.prog 6 #[.slice a0 n c0, .slice a1 m c1] w fun e w' => Bl e true (∀ i, i < n → (ss i).size ≤ 1048576) ∧ w = w' := by
  unfold maxLen at hm
  by_cases hn1 : (1048576 : Int) < n
  · go_enter Try.func6, Try.ntmps6
    go_wp2
    go_ret
    exact ⟨Bl.mk (b := false) (fun h => by cases h), rfl⟩
  go_enter Try.func6, Try.ntmps6
  go_wp2
  go_loop [5, 6] (fun b i => ∃ k : Nat, k ≤ n ∧ i = .int .i64 k ∧ (∀ i, i < k → (ss i).size ≤ 1048576) ∧ ∃ x : Int, 0 ≤ x ∧ x ≤ 1048576 ∧ b = .int .i64 x) (fun _ i => n - (intOf i).toNat)
  case atStart => exact ⟨0, Nat.zero_le _, rfl, fun i hi => absurd hi (Nat.not_lt_zero _), n, by omega, by omega, rfl⟩
  case round =>
    obtain ⟨k, hk, rfl, hall, x, hx0, hx1, rfl⟩ := hrel
    have HA := hide hall
    clear hall
    by_cases hlt : k < n
    · obtain ⟨b, off, rfl, _, hc⟩ := h0 (by omega)
      have c1 := (hc k hlt).1
      clear hc
      by_cases hL : (1048576 : Int) < (ss k).size
      · go_wp2
        go_ret
        exact ⟨Bl.mk (b := false) (fun h => by cases h), rfl⟩
      have HS := hide (show ∀ i, i < k + 1 → (ss i).size ≤ 1048576 from fun i hi => by
        by_cases e : i = k
        · subst e; omega
        · exact HA.out i (by omega))
      go_wp2
      · go_ret
        exact ⟨Bl.mk (b := false) (fun h => by cases h), rfl⟩
      · go_round
        case rel => exact ⟨k + 1, by omega, by go_num, HS.out, x + (ss k).size, by omega, by omega, by go_num⟩
        case measure => simp [intOf]; omega
    · have e : n = k := by omega
      subst e
      by_cases hm1 : (1048576 : Int) < m
      · go_wp2
        go_ret
        exact ⟨Bl.mk (b := false) (fun h => by cases h), rfl⟩
      go_wp2
      · go_ret
        exact ⟨Bl.mk (b := false) (fun h => by cases h), rfl⟩
      · go_ret
        exact ⟨Bl.mk (b := true) (fun _ => HA.out), rfl⟩

end Go.Proofs.Qxb6621657a
