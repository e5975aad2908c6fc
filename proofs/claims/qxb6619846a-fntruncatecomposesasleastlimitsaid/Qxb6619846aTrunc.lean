/-
  truncate, ZZTruncate, zzIsPrefix and the guard: the walks.
-/
import Derived.Test.Qxb6619846aProg
import Derived.Test.Qxb6619846aPlain
import Derived.WalkKit
import Derived.WalkSpells
import Derived.Deep.QuietTactic
import Derived.BigQuiet
import Derived.WalkSmall
namespace Go.Proofs.Qxb6619846a
open Go.RowKit

theorem hide {p : Prop} (h : p) : Hid p := h
theorem unhide {p : Prop} (h : Hid p) : p := h

theorem iter_below (w : World) (s : ByteArray) (k : Nat) : Below w.heap.size w (w.iter s k) := (Below.refl _ _).alloc (Nat.le_refl _) _

theorem ret_str {a b : ByteArray} (h : a = b) : Ending.returned (.string a) = .returned (.string b) := by rw [h]

set_option maxRecDepth 100000 in
set_option maxHeartbeats 800000 in
theorem truncate_any (s : ByteArray) (n : Int) (w : World) (hs : s.size ≤ 1048576) (hn : -9223372036854775808 ≤ n ∧ n ≤ 9223372036854775807) :
    Calls Try.prog 11 #[.string s, .int .i64 n] w fun e w' => e = .returned (.string (trunc s n)) ∧ Below w.heap.size w w' := by
  go_enter Try.func11, Try.ntmps11
  go_wp2
  go_loopw [5] (fun i wr => ∃ k : Nat, i = .int .i64 k ∧ wr = w.iter s (posAt s k) ∧ k ≤ 1048577 ∧ (0 ≤ n → k ≤ n)) (fun _ wr => s.size - wr.iterPos w.heap.size)
  case atStart => exact ⟨0, rfl, rfl, by omega, fun h => h⟩
  case round =>
    obtain ⟨k, rfl, rfl, hk, hkn⟩ := hrel
    have hle := posAt_le s k
    by_cases hlt : posAt s k < s.size
    · have hnx := fun ty => run_next_any (P := Try.prog) w s (posAt s k) ty hlt
      have HS := hide (posAt_step s k hlt)
      have hwb := wid_bounds s _ hlt
      have hkp : k ≤ posAt s k := by rcases posAt_ge s k with h | h <;> omega
      have hwd : (Utf8.decode s (posAt s k)).2 = wid s (posAt s k) := rfl
      rw [hwd] at hnx
      clear hwd
      generalize hg : wid s (posAt s k) = d at *
      clear hg
      by_cases he : (k : Int) = n
      · have heb : ((k : Int) == n) = true := by simp [he]
        have HT := hide (show s.extract 0 (posAt s k) = trunc s n by rw [← he, trunc_pos])
        generalize posAt s k = x at *
        clear he
        go_wp2
        go_ret
        exact ⟨ret_str HT.out, iter_below _ _ _⟩
      · have heb : ((k : Int) == n) = false := by simp [he]
        go_wp2
        go_roundw
        case rel => exact ⟨k + 1, by go_num, by rw [HS.out], by omega, fun h => by have := hkn h; omega⟩
        case measure => simp; omega
    · have hnx := fun ty => run_next_end (P := Try.prog) w s (posAt s k) ty hlt
      have HT := hide (show s = trunc s n by
        by_cases h0 : n < 0
        · rw [trunc_neg s h0]
        · obtain ⟨a, rfl⟩ := Int.eq_ofNat_of_zero_le (show 0 ≤ n by omega)
          have h1 := posAt_mono s (show k ≤ a by have := hkn (by omega); omega)
          have h2 := posAt_le s a
          rw [trunc_pos, show posAt s a = s.size by omega, extract_all])
      go_wp2
      go_ret
      exact ⟨ret_str HT.out, iter_below _ _ _⟩

theorem zztruncate_any (s : ByteArray) (n : Int) (w : World) (hs : s.size ≤ 1048576) (hn : -9223372036854775808 ≤ n ∧ n ≤ 9223372036854775807) :
    Calls Try.prog 6 #[.string s, .int .i64 n] w fun e w' => e = .returned (.string (trunc s n)) ∧ Below w.heap.size w w' := by
  go_enter Try.func6, Try.ntmps6
  go_wp2_with fail
  refine (truncate_any s n w hs hn).mono ?_
  rintro e w1 ⟨rfl, hb⟩
  go_wp2
  go_ret
  exact ⟨rfl, hb⟩

theorem bytes_any (s : ByteArray) (n m : Int) (w : World) (b : Bool) (hb : decide (s.size ≤ 1048576) = b) :
    Calls Try.prog 5 #[.string s, .int .i64 n, .int .i64 m] w fun e w' => e = .returned (.bool b) ∧ w = w' := by
  by_cases h : (1048576 : Int) < s.size
  · have e : b = false := by rw [← hb]; simp; omega
    subst e
    clear hb
    go_enter Try.func5, Try.ntmps5
    go_wp2
    go_ret
    exact ⟨rfl, rfl⟩
  · have e : b = true := by rw [← hb]; simp; omega
    subst e
    clear hb
    go_enter Try.func5, Try.ntmps5
    go_wp2
    go_ret
    exact ⟨rfl, rfl⟩

set_option maxRecDepth 100000 in
set_option maxHeartbeats 800000 in
theorem prefix_any (p s : ByteArray) (w : World) (hs : s.size ≤ 1048576) (hp : p.size ≤ s.size) (hb : ∀ k (h1 : k < p.size) (h2 : k < s.size), p[k] = s[k]) :
    Calls Try.prog 7 #[.string p, .string s] w fun e w' => e = .returned (.bool true) ∧ Below w.heap.size w w' := by
  have hB := hide hb
  clear hb
  go_enter Try.func7, Try.ntmps7
  go_wp2
  go_loopw [5] (fun i wr => ∃ k : Nat, k ≤ p.size ∧ i = .int .i64 k ∧ Below w.heap.size w wr) (fun i _ => p.size - (intOf i).toNat)
  case atStart => exact ⟨0, Nat.zero_le _, rfl, Below.refl _ _⟩
  case round =>
    obtain ⟨k, hk, rfl, hbel⟩ := hrel
    by_cases hlt : k < p.size
    · have hlt2 : k < s.size := by omega
      have q1 : (0 : Int) ≤ (k : Int) := Int.natCast_nonneg _
      have q2 : (k : Int) < (p.size : Int) := by omega
      have q3 : (k : Int) < (s.size : Int) := by omega
      have heq := hB.out k hlt hlt2
      go_wp2_with fail
      go_quiet (fail)
      go_wp2
      go_roundw
      case rel => exact ⟨k + 1, by omega, by go_num, below_drewN hbel _⟩
      case measure => simp [intOf]; omega
    · go_wp2
      go_ret
      exact ⟨rfl, hbel⟩

end Go.Proofs.Qxb6619846a
