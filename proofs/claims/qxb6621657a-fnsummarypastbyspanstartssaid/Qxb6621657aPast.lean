/-
  summary.past: the walk.
-/
import Derived.Test.Qxb6621657aPart
import Derived.Deep.MidRow
import Derived.Deep.LoopGhost
namespace Go.Proofs.Qxb6621657a
open Go.RowKit

theorem hide7 {p : Prop} (h : p) : Hid p := h

/-- the sum of the first k, as int64 has it -/
def sumTo (z : Nat → Int) : Nat → Int
  | 0 => 0
  | k + 1 => wrap64 (sumTo z k + z k)

/-- how many of the 64 are summed -/
def pc (f l b : Int) : Nat := if l < b then 64 else if b ≤ f then 0 else (spans f l (b - 1)).toNat

/-- the 64 as cells -/
def arr (z : Nat → Int) : List Value := (List.range 64).map fun i => .int .i64 (z i)
theorem arr_len (z : Nat → Int) : (arr z).length = 64 := by unfold arr; rw [List.length_map, List.length_range]
theorem arr_get (z : Nat → Int) {i : Nat} (h : i < 64) : (arr z)[i]? = some (.int .i64 (z i)) := by
  unfold arr
  rw [List.getElem?_map, List.getElem?_range h]
  rfl
theorem arr_inv {z : Nat → Int} {i : Nat} {v : Value} (h : (arr z)[i]? = some v) : i < 64 ∧ v = .int .i64 (z i) := by
  have hi : i < 64 := by have := (List.getElem?_eq_some_iff.1 h).1; rwa [arr_len] at this
  rw [arr_get z hi] at h
  exact ⟨hi, (Option.some.inj h).symm⟩

theorem size31 : (Try.prog.info? 31).map (·.size) = some 64 := by kernel_rfl
theorem agg2 (w : World) : (isAgg 2).run Try.prog w = .ok false w := by kernel_rfl
theorem size2 (w : World) : (sizeOf 2).run Try.prog w = .ok 1 w := by kernel_rfl

theorem index_arr (z : Nat → Int) {k : Nat} (hk : k < 64) (w : World) : (Instr.index 31 (.agg (arr z).toArray) (.int .i64 (k : Int))).run Try.prog w = .ok (.int .i64 (z k)) w := by
  have hg : (arr z).toArray[k]? = some (.int .i64 (z k)) := by rw [List.getElem?_toArray]; exact arr_get z hk
  have hpart : (part 2 (arr z).toArray k).run Try.prog w = .ok (.int .i64 (z k)) w := by
    simp only [part, Sem.run_bind, agg2, Result.andThen_ok, hg, Bool.false_eq_true, if_false, Sem.run_pure]
  simp [Instr.index, asIntOf, run_underlying Try.underlying31, hpart, hk]

theorem SumAt.range {w : World} {B : Nat} {f l : Int} {z : Nat → Int} (h : SumAt w B f l z) : w.rangeAt B 2 (arr z) := fun j v hv => by
  obtain ⟨hj, rfl⟩ := arr_inv hv
  exact h.2.2 j hj

theorem SumAt.below {w w' : World} {B : Nat} {f l : Int} {z : Nat → Int} (h : SumAt w B f l z) (hB : B < w.heap.size) (hb : Below w.heap.size w w') : SumAt w' B f l z :=
  ⟨(hb.cell (p := ⟨B, 0, none⟩) hB).trans h.1, (hb.cell (p := ⟨B, 1, none⟩) hB).trans h.2.1, fun i hi => (hb.cell (p := ⟨B, 2 + i, none⟩) hB).trans (h.2.2 i hi)⟩

theorem alen31 : Try.prog.arrayLen 31 = 64 := by kernel_rfl
theorem elem31 : Try.prog.elem 31 = 2 := by kernel_rfl
theorem slice_arr (B p : Nat) (hp : p ≤ 63) (w : World) : (Instr.sliceAt 31 (.pointer (some ⟨B, 2, none⟩)) none (some (.int .i64 (p : Int))) none).run Try.prog w = .ok (.slice (some ⟨B, 2, none⟩) p 64) w := by
  have h := run_sliceAt_array_h (P := Try.prog) w 31 ⟨B, 2, none⟩ (by rw [alen31, elem31]; exact Try.underlying31) .i64 (p : Int) (by omega) (by rw [alen31]; omega)
  rw [h, elem31, size2, alen31]
  simp [slicedAt, Addr.add_mid, Result.andThen]

theorem part_anyN (B p : Nat) (f l t : Int) (hp : spans f l t = (p : Int)) (z : Nat → Int) (w : World) (h : SumAt w B f l z) (hf : -9223372036854775808 ≤ f) (hl : l ≤ 9223372036854775807) (h1 : f ≤ t) (h2 : t < l) (h3 : l - f ≤ 288230376151711744) :
    Calls Try.prog 13 #[.pointer (some ⟨B, 0, none⟩), .int .i64 t] w fun e w' => e = .returned (.int .i64 (p : Int)) ∧ ∃ m, w' = w.drewN m := by
  rw [← hp]
  exact part_any B f l t z w h hf hl h1 h2 h3

def PastRes (w : World) (s : Int) (e : Ending) (w' : World) : Prop := e = .returned (.int .i64 s) ∧ Below w.heap.size w w'

set_option maxRecDepth 100000 in
set_option maxHeartbeats 1600000 in
theorem past_any (B : Nat) (f l b : Int) (z : Nat → Int) (w : World) (h : SumAt w B f l z) (hf : -9223372036854775808 ≤ f) (hl : l ≤ 9223372036854775807) (hbb : b ≤ 9223372036854775807) (h3 : f < b → b ≤ l → l - f ≤ 288230376151711744) :
    Calls Try.prog 12 #[.pointer (some ⟨B, 0, none⟩), .int .i64 b] w fun e w' => PastRes w (sumTo z (pc f l b)) e w' := by
  have c0 := h.1
  have c1 := h.2.1
  by_cases g1 : l < b
  · have hrg := h.range
    have hsz : (Try.prog.info? 31).map (·.size) = some (arr z).length := by rw [arr_len]; exact size31
    have hp : pc f l b = 64 := if_pos g1
    rw [hp]
    clear hp h h3
    have HR := hide7 (And.intro hrg hsz)
    clear hrg hsz
    go_enter Try.func12, Try.ntmps12
    go_wp2_with (refine wpList_load_mid rfl 31 _ rfl B 2 rfl (arr z) _ HR.out.1 Try.underlying31 rfl HR.out.2 ?_)
    go_loop [4, 19] (fun s i => ∃ k : Nat, k ≤ 64 ∧ i = .int .i64 k ∧ s = .int .i64 (sumTo z k)) (fun _ i => 64 - (intOf i).toNat)
    case atStart => exact ⟨0, by omega, rfl, rfl⟩
    case round =>
      obtain ⟨k, hk, rfl, rfl⟩ := hrel
      by_cases hlt : k < 64
      · have hi := index_arr z hlt
        go_wp2
        go_round
        case rel => exact ⟨k + 1, by omega, by go_num, rfl⟩
        case measure => simp [intOf]; omega
      · have e : k = 64 := by omega
        subst e
        clear hk hlt
        go_wp2
        go_ret
        exact ⟨rfl, Below.refl _ _⟩
  by_cases g2 : b ≤ f
  · have hp : pc f l b = 0 := by unfold pc; rw [if_neg g1, if_pos g2]
    rw [hp]
    clear hp h h3
    go_enter Try.func12, Try.ntmps12
    go_wp2
    go_ret
    exact ⟨rfl, Below.refl _ _⟩
  have hp : pc f l b = (spans f l (b - 1)).toNat := by unfold pc; rw [if_neg g1, if_neg g2]
  rw [hp]
  have hr := spans_range (f := f) (l := l) (t := b - 1) (by omega) (by omega)
  have hl3 := h3 (by omega) (by omega)
  have HH := hide7 h
  obtain ⟨p, hpp⟩ := Int.eq_ofNat_of_zero_le hr.1
  rw [hpp] at hr ⊢
  have hsl := slice_arr B p (by omega)
  have HC := hide7 (fun w' hw' => part_anyN B p f l (b - 1) hpp z w' hw' hf hl (by omega) (by omega) hl3)
  have hp63 : p ≤ 63 := by omega
  have q1 : (0 : Int) ≤ (p : Int) := Int.natCast_nonneg _
  have q2 : (p : Int) ≤ 64 := by omega
  clear h h3 hp hpp hr
  rw [show ((p : Int)).toNat = p from rfl]
  go_enter Try.func12, Try.ntmps12
  go_wp2_with fail
  go_quiet ((go_at_call 13; refine Calls.quiet_of (HC.out _ ?_); exact HH.out))
  go_wp2_with fail
  clear HC hsl
  go_loop [4, 42] (fun s i => ∃ k : Nat, k ≤ p ∧ i = .int .i64 k ∧ s = .int .i64 (sumTo z k)) (fun _ i => p - (intOf i).toNat)
  case atStart => exact ⟨0, by omega, rfl, rfl⟩
  case round =>
    obtain ⟨k, hk, rfl, rfl⟩ := hrel
    by_cases hlt : k < p
    · have e1 := HH.out.2.2 k (by omega)
      go_wp2
      go_round
      case rel => exact ⟨k + 1, by omega, by go_num, rfl⟩
      case measure => simp [intOf]; omega
    · have e : p = k := by omega
      subst e
      clear hk hlt
      go_wp2
      go_ret
      exact ⟨rfl, below_drewN (Below.refl _ _) _⟩

end Go.Proofs.Qxb6621657a
