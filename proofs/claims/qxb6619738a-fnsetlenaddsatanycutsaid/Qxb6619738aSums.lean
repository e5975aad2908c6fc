/-
  zzHistB1LastsMinusFirstsPlusRuns: the walk; and the plain law that it is the sum over all runs of last - first + 1.
-/
import Derived.Test.Qxb6619738aBase
namespace Go.Proofs.Qxb6619738a
open Go.RowKit

theorem rowSum_split (p q : Nat → Int) (n : Nat) : rowSum p q n = sumZ q n - sumZ p n + n := by
  induction n with
  | zero => rfl
  | succ n ih =>
    show rowSum p q n + (q n - p n + 1) = sumZ q n + q n - (sumZ p n + p n) + (n + 1 : Nat)
    rw [ih]
    omega
theorem allSum_split (L : Nat → Nat) (p q : Nat → Nat → Int) (n : Nat) : allSum L p q n = sumZ (fun i => sumZ (q i) (L i)) n - sumZ (fun i => sumZ (p i) (L i)) n + sumN L n := by
  induction n with
  | zero => rfl
  | succ n ih =>
    show allSum L p q n + rowSum (p n) (q n) (L n) = sumZ (fun i => sumZ (q i) (L i)) n + sumZ (q n) (L n) - (sumZ (fun i => sumZ (p i) (L i)) n + sumZ (p n) (L n)) + (sumN L n + L n : Nat)
    rw [ih, rowSum_split]
    omega
theorem wrap_add (a b : Int) : wrap64 (wrap64 a + b) = wrap64 (a + b) := wrap64_mod _ _ (by have := wrap64_emod a; omega)
theorem wrap_end (a b c : Int) : wrap64 (wrap64 (wrap64 a - wrap64 b) + c) = wrap64 (a - b + c) := wrap64_mod _ _ (by have := wrap64_emod a; have := wrap64_emod b; have := wrap64_emod (wrap64 a - wrap64 b); omega)

theorem ret_int {k : IntKind} {a b : Int} (h : a = b) : Ending.returned (.int k a) = .returned (.int k b) := by rw [h]

/-- the lasts (firsts) summed over i whole rows and k of the next -/
def part (L : Nat → Nat) (q : Nat → Nat → Int) (i k : Nat) : Int := sumZ (fun i => sumZ (q i) (L i)) i + sumZ (q i) k
theorem part_succ (L : Nat → Nat) (q : Nat → Nat → Int) (i k : Nat) : part L q i (k + 1) = part L q i k + q i k := by
  show _ + (sumZ (q i) k + q i k) = _ + sumZ (q i) k + q i k
  omega
theorem part_next (L : Nat → Nat) (q : Nat → Nat → Int) (i : Nat) : part L q (i + 1) 0 = part L q i (L i) := by
  show sumZ (fun i => sumZ (q i) (L i)) i + sumZ (q i) (L i) + 0 = _
  unfold part
  omega

set_option maxRecDepth 100000 in
set_option maxHeartbeats 1600000 in
theorem sums_any (v : Value) (n : Nat) (L : Nat → Nat) (p q : Nat → Nat → Int) (w : World) (h : IsRows w v n L p q) (hn : n ≤ 70000) (hL : sumN L n ≤ 1100000) :
    Calls Try.prog 9 #[v] w fun e w' => e = .returned (.int .i64 (wrap64 (allSum L p q n))) ∧ w = w' := by
  obtain ⟨a1, c1, rfl, h1⟩ := h
  have HA := hide (allSum_split L p q n)
  go_enter Try.func9, Try.ntmps9
  go_wp2
  go_loop [3, 4, 5, 6] (fun la fi co i => ∃ k : Nat, k ≤ n ∧ i = .int .i64 k ∧ la = .int .i64 (wrap64 (part L q k 0)) ∧ fi = .int .i64 (wrap64 (part L p k 0)) ∧ co = .int .i64 (sumN L k : Nat)) (fun _ _ _ i => n - (intOf i).toNat)
  case atStart => exact ⟨0, Nat.zero_le _, rfl, by simp [part, sumZ, wrap64], by simp [part, sumZ, wrap64], rfl⟩
  case round =>
    obtain ⟨k, hk, rfl, rfl, rfl, rfl⟩ := hrel
    by_cases hlt : k < n
    · obtain ⟨b, off, rfl, hb, hc⟩ := h1 (by omega)
      obtain ⟨u, hu, ua, uc, rfl, hrow⟩ := hc k hlt
      clear hc
      have HL := hide (show sumN L (k + 1) = sumN L k + L k from rfl)
      have hLs : sumN L k + L k ≤ 1100000 := by have := HL.out; have := sumN_mono L (show k + 1 ≤ n from hlt); omega
      have HN := hide (And.intro (part_next L q k) (part_next L p k))
      go_wp2
      go_loop [3, 4, 5, 7] (fun la fi co j => ∃ m : Nat, m ≤ L k ∧ j = .int .i64 m ∧ la = .int .i64 (wrap64 (part L q k m)) ∧ fi = .int .i64 (wrap64 (part L p k m)) ∧ co = .int .i64 (sumN L k + m : Nat)) (fun _ _ _ j => L k - (intOf j).toNat)
      case atStart => exact ⟨0, Nat.zero_le _, rfl, rfl, rfl, rfl⟩
      case round =>
        obtain ⟨m, hm, rfl, rfl, rfl, rfl⟩ := hrel
        by_cases hlm : m < L k
        · obtain ⟨g, o, rfl, hg, hpq⟩ := hrow (by omega)
          have hp := (hpq m hlm).1
          have hq := (hpq m hlm).2
          clear hpq hrow
          have HQ := hide (And.intro (part_succ L q k m) (part_succ L p k m))
          generalize part L q k m = Y at *
          generalize part L p k m = X at *
          generalize sumN L k = s at *
          go_wp2
          go_round
          case rel => exact ⟨m + 1, by omega, by go_num, by rw [HQ.out.1, wrap_add], by rw [HQ.out.2, wrap_add], by go_num⟩
          case measure => simp [intOf]; omega
        · have e : m = L k := by omega
          subst e
          generalize part L q k (L k) = Y at *
          generalize part L p k (L k) = X at *
          go_wp2
          go_round
          case rel => exact ⟨k + 1, by omega, by go_num, by rw [HN.out.1], by rw [HN.out.2], by rw [HL.out]⟩
          case measure => simp [intOf]; omega
    · have e : k = n := by omega
      subst e
      have HF := hide (show wrap64 (wrap64 (wrap64 (part L q k 0) - wrap64 (part L p k 0)) + (sumN L k : Nat)) = wrap64 (allSum L p q k) by
        rw [wrap_end, HA.out]
        congr 1
        show sumZ (fun i => sumZ (q i) (L i)) k + 0 - (sumZ (fun i => sumZ (p i) (L i)) k + 0) + _ = _
        omega)
      generalize part L q k 0 = Y at *
      generalize part L p k 0 = X at *
      go_wp2
      go_ret
      exact ⟨ret_int HF.out, rfl⟩

end Go.Proofs.Qxb6619738a
