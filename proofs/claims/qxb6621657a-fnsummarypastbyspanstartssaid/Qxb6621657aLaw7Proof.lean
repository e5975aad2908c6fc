/-
  Rows.FnSummaryPastBySpanStartsSaid, out of the walk.
-/
import Derived.Test.Qxb6621657aViews
import Derived.Test.Qxb6621657aLaw7
namespace Go.Proofs.Qxb6621657a
open Go.ChangeShapes Go.WideShapes Go.ChangeAt Go.RowKit
set_option linter.unusedVariables false

theorem okWide_arr {w : World} {r : Reach} {base : Nat} {v : Value} (h : Value.okWide Try.prog w r base 31 v) : ∃ cs, v = .agg cs := by
  simp only [Value.okWide, Try.underlying31] at h
  obtain ⟨cs, h1, _⟩ := h
  exact ⟨cs, h1⟩

theorem Try.cells2 : Try.prog.cellsOf 2 = 1 := by kernel_rfl
theorem Try.cells31 : Try.prog.cellsOf 31 = 64 := by kernel_rfl

section
variable {H : Type} {enc : TypeId × Value → H} {W : World}

theorem view_arr {cs : Array Value} {d : DataW H} {ps : List MemPlace} (h : DataW.Trod enc Try.prog W 0 (fun _ => true) true 31 (.agg cs) d ps) : ∃ z, cs = (arr z).toArray := by
  obtain ⟨fuel, hf⟩ := h
  obtain ⟨xs, m, _, _, hl, hxl, hx⟩ := DataW.trod_array Try.underlying31 hf
  simp only [Value.cells, Try.cells31, Try.cells2, Nat.mul_one] at hl hx
  obtain ⟨z, hz⟩ := Deep.choose_lt (α := Int) (n := 64) (p := fun i (n : Int) => cs.toList[i]? = some (.int .i64 n)) (fun i hi => by
    have h1 := hx i hi
    rw [List.getElem?_eq_getElem (by omega)] at h1
    obtain ⟨n, hn, _⟩ := DataW.trod_int Try.underlying2 h1
    refine ⟨n, ?_⟩
    have h2 : ((cs.toList.drop i).take 1)[0]? = some (.int .i64 n) := by rw [hn]; rfl
    rw [List.getElem?_take] at h2
    simpa using h2)
  refine ⟨z, ?_⟩
  apply Array.toList_inj.1
  apply List.ext_getElem?
  intro i
  by_cases hi : i < 64
  · rw [hz i hi, List.toList_toArray, arr_get z hi]
  · rw [List.getElem?_eq_none (by omega), List.toList_toArray, List.getElem?_eq_none (by rw [arr_len]; omega)]
end

set_option maxRecDepth 100000 in
theorem law7_lifted (os : Os) (started : os.Started) (H : Type) (enc : TypeId × Value → H) :
    ReturnsInHanded {} Try.checked os 5 .any (Rows.fnSummaryPastBySpanStartsSpec.pre6 enc Try.prog Try.f5 Rows.fnSummaryPastBySpanStartsRow.domain false) (Rows.fnSummaryPastBySpanStartsSpec.post enc Try.prog Try.f5 false true false false) := by
  refine returnsInHanded_of_change (C := Try.checked) own started (by kernel_rfl) Try.func5
    (ChangeSpec.witness6 (enc := enc) (C := Try.checked) false ⟨#[], #[.int .i64 0, .int .i64 0, .agg (List.replicate 64 (.int .i64 0)).toArray, .int .i64 0], []⟩ 8 (by kernel_rfl) (by kernel_rfl) (by kernel_rfl) (by kernel_rfl)) ?_
  intro W base args ds gs before hval0 hW hcnd _
  have hval : ∀ (j : Nat) t v, Try.f5.params[j]? = some t → args[j]? = some v → Value.okWide Try.prog W .any base t v := hval0
  have hW' := hW
  obtain ⟨p, q, hA0, hV, rfl, hfz, hnd⟩ := hW
  have hA : DataW.TrodAll enc Try.prog W 0 (fun _ => true) true Try.f5.params.toList args.toList ds p := hA0
  rw [Try.params5] at hA hval
  obtain ⟨v0, vs0, d0, ds0, p0, q0, hargs, rfl, rfl, h0, r0⟩ := trodAll_cons hA
  obtain ⟨v1, vs1, d1, ds1, p1, q1, rfl, rfl, rfl, h1, r1⟩ := trodAll_cons r0
  obtain ⟨v2, vs2, d2, ds2, p2, q2, rfl, rfl, rfl, h2, r2⟩ := trodAll_cons r1
  obtain ⟨v3, vs3, d3, ds3, p3, q3, rfl, rfl, rfl, h3, r3⟩ := trodAll_cons r2
  obtain ⟨rfl, rfl, rfl⟩ := trodAll_nil r3
  obtain rfl : args = #[v0, v1, v2, v3] := by cases args; simp_all
  obtain ⟨rfl, rfl⟩ := trodVars_none hV
  obtain ⟨cs, rfl⟩ := okWide_arr (hval 2 31 v2 rfl rfl)
  have lt2 : ∀ x ∈ p2, x.block < W.heap.size := by obtain ⟨m, hm⟩ := h2; exact DataW.trod_lt m _ _ _ hm
  obtain ⟨a0, rfl, rfl, rfl, w0⟩ := open_int Try.underlying2 (hval 0 2 v0 rfl rfl) h0
  obtain ⟨a1, rfl, rfl, rfl, w1⟩ := open_int Try.underlying2 (hval 1 2 v1 rfl rfl) h1
  obtain ⟨a3, rfl, rfl, rfl, w3⟩ := open_int Try.underlying2 (hval 3 2 v3 rfl rfl) h3
  obtain ⟨z, rfl⟩ := view_arr h2
  clear hA0 hval0
  refine (law7_any a0 a1 a3 z W (bounds_i64 w0).1 (bounds_i64 w1).2 (bounds_i64 w3).2).mono fun e W' ⟨he, bel⟩ => ?_
  subst he
  exact ⟨_, rfl, _, _, _, [], _, [], hW', trodAll_mk1 (shut_bool Try.underlying4 _),
    (trodAll_cons_mk (shut_int Try.underlying2 w0) (trodAll_cons_mk (shut_int Try.underlying2 w1)
      (trodAll_cons_mk (Below.trod laidOut (by kernel_rfl) (of_decide_eq_true (by kernel_rfl)) h2 bel lt2) (trodAll_cons_mk (shut_int Try.underlying2 w3) trodAll_mk0)))), rfl, bel.frame _, fun h => by cases h⟩

theorem law7_over : Rows.fnSummaryPastBySpanStartsRow.holds Try.pinned (OpenSpec.ofChange Rows.fnSummaryPastBySpanStartsSpec) :=
  OpenClaim.holds_of_wide 5 Try.f5 rfl rfl rfl rfl rfl rfl rfl ⟨rfl, rfl, rfl, rfl, rfl⟩ rfl rfl rfl rfl rfl (by kernel_rfl) Try.func5 (by kernel_rfl)
    (of_decide_eq_true (by kernel_rfl)) (by unfold Func.isWrapper; first | (rw [if_pos (by decide +kernel)]; kernel_rfl) | (rw [if_neg (by decide +kernel)]; exact ⟨rfl, rfl⟩))
    (fun os started H enc _ => law7_lifted os started H enc)

/-- THE STATEMENT -/
theorem past_proved : Rows.FnSummaryPastBySpanStartsSaid := law7_over
#print axioms past_proved
end Go.Proofs.Qxb6621657a
