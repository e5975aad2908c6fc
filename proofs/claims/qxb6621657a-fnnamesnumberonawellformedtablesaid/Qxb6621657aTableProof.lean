/-
  Rows.FnNamesNumberOnAWellFormedTableSaid, out of the walk.
-/
import Derived.Test.Qxb6621657aMapIn
import Derived.Test.Qxb6621657aTable
namespace Go.Proofs.Qxb6621657a
open Go.ChangeShapes Go.WideShapes Go.ChangeAt Go.RowKit
set_option linter.unusedVariables false

set_option maxRecDepth 100000 in
theorem table_lifted (os : Os) (started : os.Started) (H : Type) (enc : TypeId × Value → H) :
    ReturnsInHanded {} Try.checked os 4 .any (Rows.fnNamesNumberOnAWellFormedTableSpec.pre6 enc Try.prog Try.f4 Rows.fnNamesNumberOnAWellFormedTableRow.domain false) (Rows.fnNamesNumberOnAWellFormedTableSpec.post enc Try.prog Try.f4 false true false false) := by
  refine returnsInHanded_of_change_sized (C := Try.checked) own started (by kernel_rfl) Try.func4
    (ChangeSpec.witness6 (enc := enc) (C := Try.checked) false ⟨#[], #[.map none, .slice none 0 0, .string ByteArray.empty, .int .i32 0], []⟩ 8 (by kernel_rfl) (by kernel_rfl) (by kernel_rfl) (by kernel_rfl)) ?_
  intro W base args ds gs before hval0 hW hcnd hsz _
  have hval : ∀ (j : Nat) t v, Try.f4.params[j]? = some t → args[j]? = some v → Value.okWide Try.prog W .any base t v := hval0
  have hW' := hW
  obtain ⟨p, q, hA0, hV, rfl, hfz, hnd⟩ := hW
  have hA : DataW.TrodAll enc Try.prog W 0 (fun _ => true) true Try.f4.params.toList args.toList ds p := hA0
  have hsz' : ∀ (j : Nat) (t : TypeId) (d : DataW H), Try.f4.params.toList[j]? = some t → ds[j]? = some d → ∀ n ∈ d.weights Try.prog t, n ≤ reachBytes := fun j t d ht hd n hn => by
    have e1 : (Try.f4.params.toList ++ Rows.fnNamesNumberOnAWellFormedTableSpec.plain.varTypes Try.checked.prog)[j]? = some t := by
      rw [List.getElem?_append_left (List.getElem?_eq_some_iff.1 ht).1]; exact ht
    have e2 : (ds ++ gs)[j]? = some d := by
      rw [List.getElem?_append_left (List.getElem?_eq_some_iff.1 hd).1]; exact hd
    exact of_decide_eq_true (List.all_eq_true.1 hsz _ (DataW.weights_mem_each e1 e2 n hn))
  rw [Try.params4] at hA hval hsz'
  obtain ⟨v0, vs0, d0, ds0, p0, q0, hargs, rfl, rfl, h0, r0⟩ := trodAll_cons hA
  obtain ⟨v1, vs1, d1, ds1, p1, q1, rfl, rfl, rfl, h1, r1⟩ := trodAll_cons r0
  obtain ⟨v2, vs2, d2, ds2, p2, q2, rfl, rfl, rfl, h2, r2⟩ := trodAll_cons r1
  obtain ⟨v3, vs3, d3, ds3, p3, q3, rfl, rfl, rfl, h3, r3⟩ := trodAll_cons r2
  obtain ⟨rfl, rfl, rfl⟩ := trodAll_nil r3
  obtain rfl : args = #[v0, v1, v2, v3] := by cases args; simp_all
  obtain ⟨rfl, rfl⟩ := trodVars_none hV
  obtain ⟨a0, rfl⟩ := okWide_map Try.underlying25 (hval 0 25 v0 rfl rfl)
  obtain ⟨a1, len1, cap1, rfl⟩ := okWide_slice Try.underlying22 (hval 1 22 v1 rfl rfl)
  obtain ⟨name, rfl⟩ := okWide_string Try.underlying9 (hval 2 9 v2 rfl rfl)
  have lt0 : ∀ x ∈ p0, x.block < W.heap.size := by obtain ⟨m, hm⟩ := h0; exact DataW.trod_lt m _ _ _ hm
  have lt1 : ∀ x ∈ p1, x.block < W.heap.size := by obtain ⟨m, hm⟩ := h1; exact DataW.trod_lt m _ _ _ hm
  have lt2 : ∀ x ∈ p2, x.block < W.heap.size := by obtain ⟨m, hm⟩ := h2; exact DataW.trod_lt m _ _ _ hm
  obtain ⟨like, rfl, rfl, rfl, w3⟩ := open_int Try.underlying21 (hval 3 21 v3 rfl rfl) h3
  obtain ⟨cnt, L, w0, hr0⟩ := view_map h0
  obtain ⟨ss, w1, hs1⟩ := view_strs_sized h1 (hsz' 1 22 d1 rfl rfl)
  clear hA0 hval0
  refine (table_law a0 a1 cap1 len1 cnt ss name like L W w0 hr0 w1 hs1 (bounds_i32 w3)).mono fun e W' ⟨he, bel⟩ => ?_
  subst he
  exact ⟨_, rfl, _, _, _, [], _, [], hW', trodAll_mk1 (shut_bool Try.underlying4 _),
    (trodAll_cons_mk (Below.trod laidOut (by kernel_rfl) (of_decide_eq_true (by kernel_rfl)) h0 bel lt0) (trodAll_cons_mk (Below.trod laidOut (by kernel_rfl) (of_decide_eq_true (by kernel_rfl)) h1 bel lt1)
      (trodAll_cons_mk (Below.trod laidOut (by kernel_rfl) (of_decide_eq_true (by kernel_rfl)) h2 bel lt2) (trodAll_cons_mk (shut_int Try.underlying21 w3) trodAll_mk0)))), rfl, bel.frame _, fun h => by cases h⟩

theorem table_over : Rows.fnNamesNumberOnAWellFormedTableRow.holds Try.pinned (OpenSpec.ofChange Rows.fnNamesNumberOnAWellFormedTableSpec) :=
  OpenClaim.holds_of_wide 4 Try.f4 rfl rfl rfl rfl rfl rfl rfl ⟨rfl, rfl, rfl, rfl, rfl⟩ rfl rfl rfl rfl rfl (by kernel_rfl) Try.func4 (by kernel_rfl)
    (of_decide_eq_true (by kernel_rfl)) (by unfold Func.isWrapper; first | (rw [if_pos (by decide +kernel)]; kernel_rfl) | (rw [if_neg (by decide +kernel)]; exact ⟨rfl, rfl⟩))
    (fun os started H enc _ => table_lifted os started H enc)

/-- THE STATEMENT -/
theorem table_proved : Rows.FnNamesNumberOnAWellFormedTableSaid := table_over
#print axioms table_proved
end Go.Proofs.Qxb6621657a
