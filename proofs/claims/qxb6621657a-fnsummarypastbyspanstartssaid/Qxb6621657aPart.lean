/-
  summary.part: the walk.
-/
import Derived.Test.Qxb6621657aProg
import Derived.WalkKit
import Derived.WalkSpells
import Derived.Deep.QuietTactic
import Derived.BigQuiet
import Derived.WalkSmall
namespace Go.Proofs.Qxb6621657a
open Go.RowKit

/-- THE SUMMARY AS IT LIES -/
def SumAt (w : World) (B : Nat) (f l : Int) (z : Nat → Int) : Prop :=
  w.cell? ⟨B, 0, none⟩ = some (.int .i64 f) ∧ w.cell? ⟨B, 1, none⟩ = some (.int .i64 l) ∧ ∀ i, i < 64 → w.cell? ⟨B, 2 + i, none⟩ = some (.int .i64 (z i))

/-- how many spans lie before the one that holds t -/
def spans (f l t : Int) : Int := (t - f) * 64 / (l - f + 1)

theorem spans_range {f l t : Int} (h1 : f ≤ t) (h2 : t < l) : 0 ≤ spans f l t ∧ spans f l t ≤ 63 := by
  unfold spans
  constructor
  · exact Int.ediv_nonneg (by omega) (by omega)
  · have : (t - f) * 64 / (l - f + 1) < 64 := Int.ediv_lt_of_lt_mul (by omega) (by omega)
    omega

set_option maxRecDepth 100000 in
set_option maxHeartbeats 1600000 in
theorem part_any (B : Nat) (f l t : Int) (z : Nat → Int) (w : World) (h : SumAt w B f l z) (_hf : -9223372036854775808 ≤ f) (_hl : l ≤ 9223372036854775807) (h1 : f ≤ t) (h2 : t < l) (h3 : l - f ≤ 288230376151711744) :
    Calls Try.prog 13 #[.pointer (some ⟨B, 0, none⟩), .int .i64 t] w fun e w' => e = .returned (.int .i64 (spans f l t)) ∧ ∃ m, w' = w.drewN m := by
  obtain ⟨c0, c1, _⟩ := h
  have hd1 : decide (l ≤ f) = false := by simp; omega
  go_enter Try.func13, Try.ntmps13
  go_wp2_with fail
  go_quiet (fail)
  go_wp2_with fail
  go_quiet (fail)
  have hr := spans_range h1 h2
  have e0 : (if (t - f) * 64 / (l - f + 1) < 63 then (t - f) * 64 / (l - f + 1) else 63) = spans f l t := by
    show (if spans f l t < 63 then spans f l t else 63) = spans f l t
    split <;> omega
  have e1 : wrap64 (spans f l t) = spans f l t := by
    unfold wrap64
    omega
  rw [e0, e1]
  clear e0 e1
  go_wp2
  go_ret
  exact ⟨rfl, _, World.drewN_drewN _ _ _⟩

end Go.Proofs.Qxb6621657a
