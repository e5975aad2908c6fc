/-
  zzModelPast: the walk.
-/
import Derived.Test.Qxb6621657aZzPast
namespace Go.Proofs.Qxb6621657a
open Go.RowKit

theorem u64_diff {x y : Int} (h1 : y ≤ x) (h2 : x - y < 18446744073709551616) : IntKind.u64.wrap (IntKind.u64.wrap x - IntKind.u64.wrap y) = x - y := by
  simp only [IntKind.wrap_u64]
  omega
theorem u64_diff1 {x y : Int} (h1 : y ≤ x) (h2 : x - y + 1 < 18446744073709551616) : IntKind.u64.wrap (IntKind.u64.wrap (IntKind.u64.wrap x - IntKind.u64.wrap y) + 1) = x - y + 1 := by
  simp only [IntKind.wrap_u64]
  omega

theorem start_le {k X S : Int} (hS : 0 < S) : (k * S + 63) / 64 ≤ X ↔ k ≤ X * 64 / S := by
  rw [Int.le_ediv_iff_mul_le hS]
  generalize k * S = a
  omega

/-- the array as it lies in a variable of its own -/
def ArrAt (w : World) (B : Nat) (z : Nat → Int) : Prop := ∀ i, i < 64 → w.cell? ⟨B, i, none⟩ = some (.int .i64 (z i))

theorem arrAt_new (z : Nat → Int) (w : World) : ArrAt (w.alloc (.cells (arr z).toArray 31)) w.heap.size z := fun i hi => by
  have := range_new z w i _ (arr_get z hi)
  rwa [Nat.zero_add] at this

theorem index_addr (B : Nat) {k : Nat} (hk : k < 64) (w : World) : (Instr.indexAt 31 (.pointer (some ⟨B, 0, none⟩)) (.int .i64 (k : Int))).run Try.prog w = .ok (.pointer (some ⟨B, k, none⟩)) w := by
  rw [run_indexAt_array (P := Try.prog) w 31 ⟨B, 0, none⟩ .i64 (k : Int) (by rw [alen31, elem31]; exact Try.underlying31), alen31, elem31, size2, if_pos ⟨by omega, by omega⟩]
  simp [Addr.add_mid, Result.andThen]

set_option maxRecDepth 100000 in
set_option maxHeartbeats 1600000 in
theorem model_any (f l b : Int) (z : Nat → Int) (w : World) (hf : -9223372036854775808 ≤ f) (_hl : l ≤ 9223372036854775807) (hbb : b ≤ 9223372036854775807) (h3 : f < b → b ≤ l → l - f ≤ 288230376151711744) :
    Calls Try.prog 10 #[.int .i64 f, .int .i64 l, .agg (arr z).toArray, .int .i64 b] w fun e w' => PastRes w (sumTo z (pc f l b)) e w' := by
  have hA0 := arrAt_new z w
  generalize arr z = A at hA0 ⊢
  by_cases g1 : l < b
  · have hp : pc f l b = 64 := if_pos g1
    rw [hp]
    clear hp h3
    have HA := hide7 hA0
    clear hA0
    go_enter Try.func10, Try.ntmps10
    go_upto_region 1 with fail
    have hB := (Below.refl w.heap.size w).alloc (Nat.le_refl _) (.cells A.toArray 31)
    generalize w.alloc (.cells A.toArray 31) = w1 at *
    go_wp2_with fail
    go_loop [9, 10] (fun s i => ∃ k : Nat, k ≤ 64 ∧ i = .int .i64 k ∧ s = .int .i64 (sumTo z k)) (fun _ i => 64 - (intOf i).toNat)
    case atStart => exact ⟨0, by omega, rfl, rfl⟩
    case round =>
      obtain ⟨k, hk, rfl, rfl⟩ := hrel
      by_cases hlt : k < 64
      · have hi := index_addr w.heap.size hlt w1
        have e1 := HA.out k hlt
        go_wp2
        go_round
        case rel => exact ⟨k + 1, by omega, by go_num, rfl⟩
        case measure => simp [intOf]; omega
      · have e : k = 64 := by omega
        subst e
        clear hk hlt
        go_wp2
        go_ret
        exact ⟨rfl, hB⟩
  by_cases g2 : b ≤ f
  · have hp : pc f l b = 0 := by unfold pc; rw [if_neg g1, if_pos g2]
    rw [hp]
    clear hp h3 hA0
    go_enter Try.func10, Try.ntmps10
    go_upto_region 1 with fail
    have hB := (Below.refl w.heap.size w).alloc (Nat.le_refl _) (.cells A.toArray 31)
    generalize w.alloc (.cells A.toArray 31) = w1 at *
    go_wp2
    go_ret
    exact ⟨rfl, hB⟩
  have hp : pc f l b = (spans f l (b - 1)).toNat := by unfold pc; rw [if_neg g1, if_neg g2]
  rw [hp]
  have hr := spans_range (f := f) (l := l) (t := b - 1) (by omega) (by omega)
  have hl3 := h3 (by omega) (by omega)
  obtain ⟨p, hpp⟩ := Int.eq_ofNat_of_zero_le hr.1
  rw [hpp] at hr ⊢
  rw [show ((p : Int)).toNat = p from rfl]
  have HS := hide7 (show ∀ k : Nat, ((k : Int) * (l - f + 1) + 63) / 64 ≤ b - 1 - f ↔ k ≤ p from fun k => by
    rw [start_le (by omega)]
    show (k : Int) ≤ spans f l (b - 1) ↔ k ≤ p
    rw [hpp]
    omega)
  have hp63 : p ≤ 63 := by omega
  have HA := hide7 hA0
  clear hA0 h3 hp hpp hr
  go_enter Try.func10, Try.ntmps10
  go_upto_region 1 with fail
  have hB := (Below.refl w.heap.size w).alloc (Nat.le_refl _) (.cells A.toArray 31)
  generalize w.alloc (.cells A.toArray 31) = w1 at *
  go_upto_region 10 with fail
  go_cut [11] (fun v wc => v = .int .u64 (b - 1 - f) ∧ w1 = wc)
  case first =>
    go_wp2
    go_meet
    case rel => exact ⟨by rw [u64_diff (by omega) (by omega)], rfl⟩
  case rest =>
    obtain ⟨rfl, rfl⟩ := hcut
    go_upto_region 11 with fail
    go_cut [12] (fun v wc => v = .int .u64 (l - f + 1) ∧ w1 = wc)
    case first =>
      go_wp2
      go_meet
      case rel => exact ⟨by rw [u64_diff1 (by omega) (by omega)], rfl⟩
    case rest =>
      obtain ⟨rfl, rfl⟩ := hcut
      go_wp2_with fail
      generalize hX : b - 1 - f = X at *
      generalize hS : l - f + 1 = S at *
      have hX1 : 0 ≤ X ∧ X ≤ 288230376151711744 := by omega
      have hS1 : 1 ≤ S ∧ S ≤ 288230376151711745 := by omega
      clear hX hS
      go_loop [13, 14] (fun s i => ∃ k : Nat, 1 ≤ k ∧ k ≤ 64 ∧ i = .int .u64 k ∧ s = .int .i64 (min (k - 1) p : Nat)) (fun _ i => 64 - (intOf i).toNat)
      case atStart => exact ⟨1, by omega, by omega, rfl, by simp⟩
      case round =>
        obtain ⟨k, hk1, hk, rfl, rfl⟩ := hrel
        by_cases hlt : k < 64
        · have hm : (k : Int) * S ≤ 18158513697557839935 := by
            have h1 : (k : Int) * S ≤ 63 * S := Int.mul_le_mul_of_nonneg_right (by omega) (by omega)
            omega
          have hm0 : 0 ≤ (k : Int) * S := Int.mul_nonneg (by omega) (by omega)
          by_cases hkp : k ≤ p
          · have hle := (HS.out k).2 hkp
            obtain ⟨q, hq⟩ : ∃ q, min (k - 1) p = q := ⟨_, rfl⟩
            have hq2 : q + 1 = min (k + 1 - 1) p := by omega
            have hq3 : q ≤ 63 := by omega
            rw [hq]
            clear hq
            go_wp2
            go_round
            case rel => exact ⟨k + 1, by omega, by omega, by go_num, by rw [← hq2]; go_num⟩
            case measure => simp [intOf]; omega
          · have hle : ¬ ((k : Int) * S + 63) / 64 ≤ X := fun h => hkp ((HS.out k).1 h)
            have hle2 : X < ((k : Int) * S + 63) / 64 := by omega
            obtain ⟨q, hq⟩ : ∃ q, min (k - 1) p = q := ⟨_, rfl⟩
            have hq2 : q = min (k + 1 - 1) p := by omega
            have hq3 : q ≤ 63 := by omega
            rw [hq]
            clear hq
            go_wp2
            go_round
            case rel => exact ⟨k + 1, by omega, by omega, by go_num, by rw [← hq2]⟩
            case measure => simp [intOf]; omega
        · have e : min (k - 1) p = p := by omega
          rw [e]
          have e : k = 64 := by omega
          subst e
          clear hk hlt hk1 HS
          go_wp2_with fail
          go_loop [9, 16] (fun s i => ∃ k : Nat, k ≤ p ∧ i = .int .i64 k ∧ s = .int .i64 (sumTo z k)) (fun _ i => p - (intOf i).toNat)
          case atStart => exact ⟨0, by omega, rfl, rfl⟩
          case round =>
            obtain ⟨k, hk, rfl, rfl⟩ := hrel
            by_cases hlt : k < p
            · have hi := index_addr w.heap.size (show k < 64 by omega) w1
              have e1 := HA.out k (by omega)
              go_wp2
              go_round
              case rel => exact ⟨k + 1, by omega, by go_num, rfl⟩
              case measure => simp [intOf]; omega
            · have e : p = k := by omega
              subst e
              clear hk hlt
              go_wp2
              go_ret
              exact ⟨rfl, hB⟩

end Go.Proofs.Qxb6621657a
