/-
  ZZSummaryPast: the walk.
-/
import Derived.Test.Qxb6621657aPast
import Derived.Deep.WholeRow
import Derived.Deep.DeepCutAuto
namespace Go.Proofs.Qxb6621657a
open Go.RowKit

/-- a summary's 66 cells -/
def sumCells (f l : Int) (z : Nat → Int) : Array Value := (Value.int .i64 f :: Value.int .i64 l :: arr z).toArray

theorem built40 (f l : Int) (z : Nat → Int) : Try.prog.built 40 [(0, .int .i64 f), (1, .int .i64 l), (2, .agg (arr z).toArray)] = some (sumCells f l z) := by kernel_rfl
theorem size40 : (Try.prog.info? 40).map (·.size) = some 66 := by kernel_rfl
theorem zero40 : ∃ Z : Array Value, Z.size = 66 ∧ ∀ w, (zeroValue 40).run Try.prog w = .ok (.agg Z) w := by
  refine ⟨((List.replicate 66 (Value.int .i64 0)).toArray), by simp, fun w => ?_⟩
  exact (zero_of_info (P := Try.prog) (t := 40) (v := .agg (List.replicate 66 (Value.int .i64 0)).toArray) (n := 66) (by kernel_rfl)).1 w

theorem sumCells_size (f l : Int) (z : Nat → Int) : (sumCells f l z).size = 66 := by unfold sumCells; rw [List.size_toArray, List.length_cons, List.length_cons, arr_len]
theorem sumCells_one (f l : Int) (z : Nat → Int) : (sumCells f l z).all (·.oneCell') = true := by
  unfold sumCells
  refine all_oneCell_toArray (fun v hv => ?_)
  rcases List.mem_cons.1 hv with rfl | hv
  · rfl
  rcases List.mem_cons.1 hv with rfl | hv
  · rfl
  · obtain ⟨i, hi⟩ := List.getElem?_of_mem hv
    obtain ⟨_, rfl⟩ := arr_inv hi
    rfl

theorem sumAt_new (f l : Int) (z : Nat → Int) (w : World) : SumAt (w.alloc (.cells (sumCells f l z) 40)) w.heap.size f l z := by
  have hb := heap_alloc_last w (.cells (sumCells f l z) 40)
  have hc : ∀ j, (w.alloc (.cells (sumCells f l z) 40)).cell? ⟨w.heap.size, j, none⟩ = (sumCells f l z)[j]? := fun j => cell_of_row _ _ j _ _ _ hb
  refine ⟨by rw [hc]; rfl, by rw [hc]; rfl, fun i hi => ?_⟩
  rw [hc]
  unfold sumCells
  rw [List.getElem?_toArray, show 2 + i = i + 1 + 1 by omega, List.getElem?_cons_succ, List.getElem?_cons_succ]
  exact arr_get z hi

theorem range_new (z : Nat → Int) (w : World) : (w.alloc (.cells (arr z).toArray 31)).rangeAt w.heap.size 0 (arr z) := fun j v hv => by
  rw [cell_of_row _ _ _ _ _ _ (heap_alloc_last w (.cells (arr z).toArray 31)), Nat.zero_add, List.getElem?_toArray]
  exact hv

theorem wpList_build_is {P : Program} {ops : Array Oper} {rest : List Oper} {o : Oper} {a : Act} {w : World} {Q : Exit → Act → World → Prop} (hg : o.guard = none) (t : TypeId) (parts : Array (Nat × Operand)) (ho : o.op = .build t parts)
    (cells : Array Value) (hf : P.built t (parts.map fun (i, x) => (i, a.eval x)).toList = some cells)
    (h : wpList P ops Q rest (a.put o.dst (.agg cells)) w) : wpList P ops Q (o :: rest) a w :=
  wpList_build hg t parts ho (by rw [hf]; rfl) (by rw [hf]; exact h)

theorem wpList_store_new {P : Program} {ops : Array Oper} {rest : List Oper} {op : Oper} {a : Act} {w : World} {Q : Exit → Act → World → Prop} (hgd : op.guard = none) (ty : TypeId) (x y : Operand) (ho : op.op = .store ty x y)
    (c c' : Array Value) (H : Nat) (hH : w.heap.size = H) (hx : a.eval x = .pointer (some ⟨H, 0, none⟩)) (hy : a.eval y = .agg c')
    (hi : (P.info? ty).map (·.size) = some c'.size) (hc : c.size = c'.size) (h1 : c'.all (·.oneCell') = true)
    (h : wpList P ops Q rest (a.put op.dst undef) (w.alloc (.cells c' ty))) : wpList P ops Q (op :: rest) a (w.alloc (.cells c ty)) :=
  wpList_plain hgd fun _ hK => by
    subst hH
    unfold Oper.wp execOp
    simp only [ho, hx, hy, Instr.storeAt, Instr.sureAddr, Sem.run_bind, Sem.run_pure, Result.andThen_ok, run_storeVar_new w ty c c' hi hc h1]
    exact hK _ _ h

set_option maxRecDepth 100000 in
set_option maxHeartbeats 1600000 in
theorem zzpast_any (f l b : Int) (z : Nat → Int) (w : World) (hf : -9223372036854775808 ≤ f) (hl : l ≤ 9223372036854775807) (hbb : b ≤ 9223372036854775807) (h3 : f < b → b ≤ l → l - f ≤ 288230376151711744) :
    Calls Try.prog 9 #[.int .i64 f, .int .i64 l, .agg (arr z).toArray, .int .i64 b] w fun e w' => PastRes w (sumTo z (pc f l b)) e w' := by
  obtain ⟨Z, hZ1, hZ⟩ := zero40
  have HP := hide7 (fun B w' hw' => past_any B f l b z w' hw' hf hl hbb h3)
  obtain ⟨A, hA⟩ : ∃ A, arr z = A := ⟨_, rfl⟩
  obtain ⟨C, hC⟩ : ∃ C, sumCells f l z = C := ⟨_, rfl⟩
  have hsz : (Try.prog.info? 31).map (·.size) = some A.length := by rw [← hA, arr_len]; exact size31
  have hbu : Try.prog.built 40 [(0, .int .i64 f), (1, .int .i64 l), (2, .agg A.toArray)] = some C := by rw [← hA, ← hC]; exact built40 f l z
  have hrn : (w.alloc (.cells A.toArray 31)).rangeAt w.heap.size 0 A := by rw [← hA]; exact range_new z w
  have hs1 : (Try.prog.info? 40).map (·.size) = some C.size := by rw [← hC, sumCells_size]; exact size40
  have hs2 : Z.size = C.size := by rw [← hC, sumCells_size]; exact hZ1
  have hs3 : C.all (·.oneCell') = true := by rw [← hC]; exact sumCells_one f l z
  have hs4 : ∀ w : World, SumAt (w.alloc (.cells C 40)) w.heap.size f l z := by rw [← hC]; exact sumAt_new f l z
  rw [hA]
  have HZ := hide7 (And.intro hsz (And.intro hbu (And.intro hrn (And.intro hs1 (And.intro hs2 (And.intro hs3 hs4))))))
  clear h3 hsz hZ1 hA hC hbu hrn hs1 hs2 hs3 hs4
  go_enter Try.func9, Try.ntmps9
  go_wp2_with (first
    | (refine wpList_load_mid rfl 31 _ rfl w.heap.size 0 rfl A _ HZ.out.2.2.1 Try.underlying31 rfl HZ.out.1 ?_)
    | (refine wpList_build_is rfl 40 _ rfl C (by simp only [List.map_toArray, List.map_cons, List.map_nil]; exact HZ.out.2.1) ?_)
    | (refine wpList_store_new rfl 40 _ _ rfl Z C (w.heap.size + 1) (by simp) rfl rfl HZ.out.2.2.2.1 HZ.out.2.2.2.2.1 HZ.out.2.2.2.2.2.1 ?_))
  refine (HP.out _ _ (by have := HZ.out.2.2.2.2.2.2 (w.alloc (.cells A.toArray 31)); simpa using this)).mono ?_
  rintro e w' ⟨rfl, hb⟩
  have hbw : Below w.heap.size w w' := (((Below.refl _ _).alloc (Nat.le_refl _) _).alloc (by simp) _).trans (hb.mono (by simp; omega))
  clear hb
  go_wp2
  go_ret
  exact ⟨rfl, hbw⟩

end Go.Proofs.Qxb6621657a
