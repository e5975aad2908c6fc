/-
  Rows.FnCountsAddSplitsAtAnyCutSaid, out of the walk.
-/
import Derived.Test.Qxb6619846aRows
import Derived.Test.Qxb6619846aCntLaw
import Derived.ProofKit
import Derived.OpenShut
import Derived.ShutString
import Derived.ChangeOld
import Derived.Below
import Derived.Deep.Slices
namespace Go.Proofs.Qxb6619846a
open Go.ChangeShapes Go.WideShapes Go.ChangeAt Go.RowKit
set_option linter.unusedVariables false

theorem cnt_own : ownKnob Try.prog.godebug = none := by kernel_rfl
theorem cnt_laidOut : laidOutB Try.prog = true := by kernel_rfl
theorem Try.cells3 : Try.prog.cellsOf 3 = 1 := by kernel_rfl
theorem Try.cells32 : Try.prog.cellsOf 32 = 3 := by kernel_rfl

theorem view_trips {H : Type} {enc : TypeId × Value → H} {W : World} {a : Option Addr} {len cap : Nat} {d : DataW H} {ps : List MemPlace} (h : DataW.Trod enc Try.prog W 0 (fun _ => true) true 25 (.slice a len cap) d ps) : ∃ X Y Z, IsTrips W a len X Y Z := by
  obtain ⟨fuel, hf⟩ := h
  rcases Deep.open_slice Try.underlying25 hf with ⟨hcs, _⟩ | ⟨x, l, c, m, n, D, Pl, hcs, _, hl, hm, hmm, _, hx⟩
  · simp [Value.cells] at hcs
    obtain ⟨rfl, rfl, rfl⟩ := hcs
    exact ⟨fun _ => 0, fun _ => 0, fun _ => 0, fun h => absurd h (Nat.lt_irrefl _)⟩
  · simp [Value.cells] at hcs
    obtain ⟨rfl, rfl, rfl⟩ := hcs
    simp only [if_true] at hmm
    subst hmm
    have each : ∀ i, i < len → ∃ y : Int × Int × Int, W.cell? (x.add (i * 3)) = some (.int .i64 y.1) ∧ W.cell? (x.add (i * 3 + 1)) = some (.int .i64 y.2.1) ∧ W.cell? (x.add (i * 3 + 2)) = some (.int .i64 y.2.2) := by
      intro i hi
      obtain ⟨cs', h1, h2⟩ := hx i (by omega)
      rw [Try.cells32] at h1
      obtain ⟨_, hlen, hcell⟩ := World.cells?_some h1
      obtain ⟨xs, k, _, _, _, hxl, hf⟩ := DataW.trod_array Try.underlying32 h2
      match xs, hxl, cs', hlen with
      | [y0, y1, y2], _, [v0, v1, v2], _ =>
        have g0 := hf 0 (by omega)
        have g1 := hf 1 (by omega)
        have g2 := hf 2 (by omega)
        simp [Try.cells3] at g0 g1 g2
        obtain ⟨n0, e0, _, _⟩ := DataW.trod_int Try.underlying3 g0
        obtain ⟨n1, e1, _, _⟩ := DataW.trod_int Try.underlying3 g1
        obtain ⟨n2, e2, _, _⟩ := DataW.trod_int Try.underlying3 g2
        simp at e0 e1 e2
        subst e0 e1 e2
        have c0 := hcell 0 (by omega)
        have c1 := hcell 1 (by omega)
        have c2 := hcell 2 (by omega)
        rw [Deep.add_add] at c0 c1 c2
        exact ⟨(n0, n1, n2), by simpa using c0, by simpa using c1, by simpa using c2⟩
    obtain ⟨f, hff⟩ := Deep.choose_lt each
    refine ⟨fun i => (f i).1, fun i => (f i).2.1, fun i => (f i).2.2, fun hn => ?_⟩
    obtain ⟨b, off, spot⟩ := x
    have hspot : spot = none := by simpa [Addr.add] using World.cell?_spot (hff 0 hn).1
    subst hspot
    refine ⟨b, off, rfl, ?_, fun i hi => ⟨by rw [← add_plain]; exact (hff i hi).1, by rw [Nat.add_assoc, ← add_plain]; exact (hff i hi).2.1, by rw [Nat.add_assoc, ← add_plain]; exact (hff i hi).2.2⟩⟩
    have := World.block_lt_of_cell? W _ (hff 0 hn).1
    simpa [Addr.add] using this

set_option maxRecDepth 100000 in
theorem cnt_lifted (os : Os) (started : os.Started) (H : Type) (enc : TypeId × Value → H) :
    ReturnsInHanded {} Try.checked os 4 .any (Rows.fnCountsAddSplitsAtAnyCutSpec.pre6 enc Try.prog Try.f4 Rows.fnCountsAddSplitsAtAnyCutRow.domain false) (Rows.fnCountsAddSplitsAtAnyCutSpec.post enc Try.prog Try.f4 false true false false) := by
  refine returnsInHanded_of_change (C := Try.checked) cnt_own started (by kernel_rfl) Try.func4
    (ChangeSpec.witness6 (enc := enc) (C := Try.checked) false ⟨#[], #[.int .i64 0, .int .i64 0, .int .i64 0, .slice none 0 0, .int .i64 0], []⟩ 8 (by kernel_rfl) (by kernel_rfl) (by kernel_rfl) (by kernel_rfl)) ?_
  intro W base args ds gs before hval0 hW hcnd _
  have hval : ∀ (j : Nat) t v, Try.f4.params[j]? = some t → args[j]? = some v → Value.okWide Try.prog W .any base t v := hval0
  have hW' := hW
  obtain ⟨p, q, hA0, hV, rfl, hfz, hnd⟩ := hW
  have hA : DataW.TrodAll enc Try.prog W 0 (fun _ => true) true Try.f4.params.toList args.toList ds p := hA0
  rw [Try.params4] at hA hval
  obtain ⟨v0, vs0, d0, ds0, p0, q0, hargs, rfl, rfl, h0, r0⟩ := trodAll_cons hA
  obtain ⟨v1, vs1, d1, ds1, p1, q1, rfl, rfl, rfl, h1, r1⟩ := trodAll_cons r0
  obtain ⟨v2, vs2, d2, ds2, p2, q2, rfl, rfl, rfl, h2, r2⟩ := trodAll_cons r1
  obtain ⟨v3, vs3, d3, ds3, p3, q3, rfl, rfl, rfl, h3, r3⟩ := trodAll_cons r2
  obtain ⟨v4, vs4, d4, ds4, p4, q4, rfl, rfl, rfl, h4, r4⟩ := trodAll_cons r3
  obtain ⟨rfl, rfl, rfl⟩ := trodAll_nil r4
  obtain rfl : args = #[v0, v1, v2, v3, v4] := by cases args; simp_all
  obtain ⟨rfl, rfl⟩ := trodVars_none hV
  obtain ⟨a0, rfl, rfl, rfl, w0⟩ := open_int Try.underlying3 (hval 0 3 v0 rfl rfl) h0
  obtain ⟨a1, rfl, rfl, rfl, w1⟩ := open_int Try.underlying3 (hval 1 3 v1 rfl rfl) h1
  obtain ⟨a2, rfl, rfl, rfl, w2⟩ := open_int Try.underlying3 (hval 2 3 v2 rfl rfl) h2
  obtain ⟨a3, len3, cap3, rfl⟩ := okWide_slice Try.underlying25 (hval 3 25 v3 rfl rfl)
  have lt3 : ∀ x ∈ p3, x.block < W.heap.size := by obtain ⟨m, hm⟩ := h3; exact DataW.trod_lt m _ _ _ hm
  obtain ⟨X, Y, Z, w3⟩ := view_trips h3
  obtain ⟨a4, rfl, rfl, rfl, w4⟩ := open_int Try.underlying3 (hval 4 3 v4 rfl rfl) h4
  clear hA0 hval0
  refine (cnt_law a0 a1 a2 a3 len3 cap3 X Y Z a4 W (bounds_i64 w0) (bounds_i64 w1) (bounds_i64 w2) w3).mono fun e W' ⟨he, bel⟩ => ?_
  subst he
  exact ⟨_, rfl, _, _, _, [], _, [], hW', trodAll_mk1 (shut_bool Try.underlying4 _),
    (trodAll_cons_mk (shut_int Try.underlying3 w0) (trodAll_cons_mk (shut_int Try.underlying3 w1) (trodAll_cons_mk (shut_int Try.underlying3 w2)
      (trodAll_cons_mk (Below.trod cnt_laidOut (by kernel_rfl) (of_decide_eq_true (by kernel_rfl)) h3 bel lt3) (trodAll_cons_mk (shut_int Try.underlying3 w4) trodAll_mk0))))), rfl, bel.frame _, fun h => by cases h⟩

theorem cnt_over : Rows.fnCountsAddSplitsAtAnyCutRow.holds Try.pinned (OpenSpec.ofChange Rows.fnCountsAddSplitsAtAnyCutSpec) :=
  OpenClaim.holds_of_wide 4 Try.f4 rfl rfl rfl rfl rfl rfl rfl ⟨rfl, rfl, rfl, rfl, rfl⟩ rfl rfl rfl rfl rfl (by kernel_rfl) Try.func4 (by kernel_rfl)
    (of_decide_eq_true (by kernel_rfl)) (by unfold Func.isWrapper; first | (rw [if_pos (by decide +kernel)]; kernel_rfl) | (rw [if_neg (by decide +kernel)]; exact ⟨rfl, rfl⟩))
    (fun os started H enc _ => cnt_lifted os started H enc)

/-- THE STATEMENT -/
theorem cnt_proved : Rows.FnCountsAddSplitsAtAnyCutSaid := cnt_over
#print axioms cnt_proved
end Go.Proofs.Qxb6619846a
