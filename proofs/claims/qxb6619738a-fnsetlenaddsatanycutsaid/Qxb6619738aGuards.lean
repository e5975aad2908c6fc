/-
  THE TWO GUARDS: each only reads and answers some bool; what 'go on' tells of the lengths.
-/
import Derived.Test.Qxb6619738aBase
namespace Go.Proofs.Qxb6619738a
open Go.RowKit

/-- some bool came back; if it was 'b0', then 'c' -/
def Bl (e : Ending) (b0 : Bool) (c : Prop) : Prop := ∃ b, e = .returned (.bool b) ∧ (b = b0 → c)
theorem Bl.mk {b b0 : Bool} {c : Prop} (h : b = b0 → c) : Bl (.returned (.bool b)) b0 c := ⟨b, rfl, h⟩

set_option maxRecDepth 100000 in
set_option maxHeartbeats 800000 in
theorem tooBig_any (v0 v1 : Value) (n m : Nat) (z : Nat → Int) (L : Nat → Nat) (p q : Nat → Nat → Int) (w : World) (h0 : IsInts w v0 n z) (h1 : IsRows w v1 m L p q) (hn : n ≤ 1048576) (hm : m ≤ 1048576) (hL : sumN L m ≤ 1048576) :
    Calls Try.prog 6 #[v0, v1] w fun e w' => Bl e false (n ≤ 65536 ∧ m ≤ 65536) ∧ w = w' := by
  obtain ⟨a0, c0, rfl, _⟩ := h0
  obtain ⟨a1, c1, rfl, h1⟩ := h1
  by_cases hn1 : (65536 : Int) < n
  · go_enter Try.func6, Try.ntmps6
    go_wp2
    go_ret
    exact ⟨Bl.mk (b := true) (fun h => by cases h), rfl⟩
  by_cases hm1 : (65536 : Int) < m
  · go_enter Try.func6, Try.ntmps6
    go_wp2
    go_ret
    exact ⟨Bl.mk (b := true) (fun h => by cases h), rfl⟩
  by_cases hb1 : (1048576 : Int) < 8 * n + 8 * m
  · go_enter Try.func6, Try.ntmps6
    go_wp2
    go_ret
    exact ⟨Bl.mk (b := true) (fun h => by cases h), rfl⟩
  go_enter Try.func6, Try.ntmps6
  go_wp2
  go_loop [5, 6] (fun b i => ∃ k : Nat, k ≤ m ∧ i = .int .i64 k ∧ ∃ x : Int, 0 ≤ x ∧ x ≤ 1048576 ∧ b = .int .i64 x) (fun _ i => m - (intOf i).toNat)
  case atStart => exact ⟨0, Nat.zero_le _, rfl, 8 * n + 8 * m, by omega, by omega, rfl⟩
  case round =>
    obtain ⟨k, hk, rfl, x, hx0, hx1, rfl⟩ := hrel
    by_cases hlt : k < m
    · obtain ⟨b, off, rfl, _, hc⟩ := h1 (by omega)
      obtain ⟨u, hu, ua, uc, rfl, _⟩ := hc k hlt
      clear hc
      have hLk := sumN_le L hlt
      go_wp2
      · go_ret
        exact ⟨Bl.mk (b := true) (fun h => by cases h), rfl⟩
      · go_round
        case rel => exact ⟨k + 1, by omega, by go_num, x + 16 * L k, by omega, by omega, by go_num⟩
        case measure => simp [intOf]; omega
    · go_wp2
      go_ret
      exact ⟨Bl.mk (b := false) (fun _ => by omega), rfl⟩

set_option maxRecDepth 100000 in
set_option maxHeartbeats 800000 in
theorem bytes5_any (v0 v1 : Value) (j : Int) (n m : Nat) (z : Nat → Int) (L : Nat → Nat) (p q : Nat → Nat → Int) (w : World) (h0 : IsInts w v0 n z) (h1 : IsRows w v1 m L p q) :
    Calls Try.prog 5 #[v0, v1, .int .i64 j] w fun e w' => Bl e true (n ≤ 1048576 ∧ m ≤ 1048576 ∧ sumN L m ≤ 1048576) ∧ w = w' := by
  obtain ⟨a0, c0, rfl, _⟩ := h0
  obtain ⟨a1, c1, rfl, h1⟩ := h1
  by_cases hn1 : (1048576 : Int) < n
  · go_enter Try.func5, Try.ntmps5
    go_wp2
    go_ret
    exact ⟨Bl.mk (b := false) (fun h => by cases h), rfl⟩
  by_cases hm1 : (1048576 : Int) < m
  · go_enter Try.func5, Try.ntmps5
    go_wp2
    go_ret
    exact ⟨Bl.mk (b := false) (fun h => by cases h), rfl⟩
  by_cases hb1 : (1048576 : Int) < n + m
  · go_enter Try.func5, Try.ntmps5
    go_wp2
    go_ret
    exact ⟨Bl.mk (b := false) (fun h => by cases h), rfl⟩
  go_enter Try.func5, Try.ntmps5
  go_wp2
  go_loop [7, 8] (fun b i => ∃ k : Nat, k ≤ m ∧ i = .int .i64 k ∧ sumN L k + n + m ≤ 1048576 ∧ b = .int .i64 (sumN L k + n + m : Nat)) (fun _ i => m - (intOf i).toNat)
  case atStart => exact ⟨0, Nat.zero_le _, rfl, by simp [sumN]; omega, by simp [sumN]⟩
  case round =>
    obtain ⟨k, hk, rfl, hx, rfl⟩ := hrel
    by_cases hlt : k < m
    · obtain ⟨b, off, rfl, _, hc⟩ := h1 (by omega)
      obtain ⟨u, hu, ua, uc, rfl, _⟩ := hc k hlt
      clear hc
      have HS : Hid (sumN L (k + 1) = sumN L k + L k) := rfl
      by_cases hL : (1048576 : Int) < L k
      · go_wp2
        go_ret
        exact ⟨Bl.mk (b := false) (fun h => by cases h), rfl⟩
      generalize sumN L k = s at *
      go_wp2
      · go_ret
        exact ⟨Bl.mk (b := false) (fun h => by cases h), rfl⟩
      · go_round
        case rel => exact ⟨k + 1, by omega, by go_num, by rw [HS.out]; omega, by rw [HS.out]; go_num⟩
        case measure => simp [intOf]; omega
    · have e : k = m := by omega
      go_wp2
      go_ret
      exact ⟨Bl.mk (b := true) (fun _ => by subst e; omega), rfl⟩

set_option maxRecDepth 100000 in
set_option maxHeartbeats 800000 in
theorem bytes10_any (v0 v1 : Value) (i c x : Int) (n m : Nat) (z : Nat → Int) (L : Nat → Nat) (p q : Nat → Nat → Int) (w : World) (h0 : IsInts w v0 n z) (h1 : IsRows w v1 m L p q) :
    Calls Try.prog 10 #[v0, v1, .int .i64 i, .int .i64 c, .int .i64 x] w fun e w' => Bl e true (n ≤ 1048576 ∧ m ≤ 1048576 ∧ sumN L m ≤ 1048576) ∧ w = w' := by
  obtain ⟨a0, c0, rfl, _⟩ := h0
  obtain ⟨a1, c1, rfl, h1⟩ := h1
  by_cases hn1 : (1048576 : Int) < n
  · go_enter Try.func10, Try.ntmps10
    go_wp2
    go_ret
    exact ⟨Bl.mk (b := false) (fun h => by cases h), rfl⟩
  by_cases hm1 : (1048576 : Int) < m
  · go_enter Try.func10, Try.ntmps10
    go_wp2
    go_ret
    exact ⟨Bl.mk (b := false) (fun h => by cases h), rfl⟩
  by_cases hb1 : (1048576 : Int) < n + m
  · go_enter Try.func10, Try.ntmps10
    go_wp2
    go_ret
    exact ⟨Bl.mk (b := false) (fun h => by cases h), rfl⟩
  go_enter Try.func10, Try.ntmps10
  go_wp2
  go_loop [11, 12] (fun b i => ∃ k : Nat, k ≤ m ∧ i = .int .i64 k ∧ sumN L k + n + m ≤ 1048576 ∧ b = .int .i64 (sumN L k + n + m : Nat)) (fun _ i => m - (intOf i).toNat)
  case atStart => exact ⟨0, Nat.zero_le _, rfl, by simp [sumN]; omega, by simp [sumN]⟩
  case round =>
    obtain ⟨k, hk, rfl, hx, rfl⟩ := hrel
    by_cases hlt : k < m
    · obtain ⟨b, off, rfl, _, hc⟩ := h1 (by omega)
      obtain ⟨u, hu, ua, uc, rfl, _⟩ := hc k hlt
      clear hc
      have HS : Hid (sumN L (k + 1) = sumN L k + L k) := rfl
      by_cases hL : (1048576 : Int) < L k
      · go_wp2
        go_ret
        exact ⟨Bl.mk (b := false) (fun h => by cases h), rfl⟩
      generalize sumN L k = s at *
      go_wp2
      · go_ret
        exact ⟨Bl.mk (b := false) (fun h => by cases h), rfl⟩
      · go_round
        case rel => exact ⟨k + 1, by omega, by go_num, by rw [HS.out]; omega, by rw [HS.out]; go_num⟩
        case measure => simp [intOf]; omega
    · have e : k = m := by omega
      go_wp2
      go_ret
      exact ⟨Bl.mk (b := true) (fun _ => by subst e; omega), rfl⟩

end Go.Proofs.Qxb6619738a
