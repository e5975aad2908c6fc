/-
  THE MAP AND THE NAMES AS THEY CAME IN, as the walk of FnNamesNumberOnAWellFormedTable wants them.
-/
import Derived.Test.Qxb6621657aViews
import Derived.Test.Qxb6621657aTail
import Derived.WideKeyElems2
import Derived.SizedLaws
namespace Go.Proofs.Qxb6621657a
open Go.ChangeShapes Go.WideShapes Go.ChangeAt Go.RowKit Go.Maps

section
variable {H : Type} {enc : TypeId × Value → H} {W : World}

theorem mem_weightsAll {P : Program} {e : TypeId} : ∀ {l : List (DataW H)} {d : DataW H} {n : Nat}, d ∈ l → n ∈ d.weights P e → n ∈ DataW.weightsAll P e l
  | x :: l, d, n, hd, hn => by
    rw [DataW.weightsAll]
    rcases List.mem_cons.1 hd with rfl | hd
    · exact List.mem_append_left _ hn
    · exact List.mem_append_right _ (mem_weightsAll hd hn)

theorem view_strs_sized {a : Option Addr} {len cap : Nat} {d : DataW H} {ps : List MemPlace} (h : DataW.Trod enc Try.prog W 0 (fun _ => true) true 22 (.slice a len cap) d ps) (hw : ∀ n ∈ d.weights Try.prog 22, n ≤ reachBytes) :
    ∃ ss, IsStrs W a len ss ∧ ∀ i, i < len → (ss i).size ≤ 140737488355328 := by
  obtain ⟨fuel, hf⟩ := h
  rcases Deep.open_slice1 Try.underlying22 Try.cells9 hf with ⟨hcs, _⟩ | ⟨x, l, c, m, n, V, D, Pl, hcs, _, hl, hm, hmm, hxx, hx⟩
  · simp [Value.cells] at hcs
    obtain ⟨rfl, rfl, rfl⟩ := hcs
    exact ⟨fun _ => ByteArray.empty, fun h => absurd h (Nat.lt_irrefl _), fun i hi => absurd hi (Nat.not_lt_zero _)⟩
  · simp [Value.cells] at hcs
    obtain ⟨rfl, rfl, rfl⟩ := hcs
    simp only [if_true] at hmm
    subst hmm
    simp only [Prod.mk.injEq] at hxx
    obtain ⟨rfl, _⟩ := hxx
    obtain ⟨f, hff⟩ := Deep.choose_lt (α := ByteArray) (n := len) (p := fun i (s : ByteArray) => V i = .string s ∧ s.size ≤ maxLen ∧ s.size ≤ 140737488355328) (fun i hi => by
      obtain ⟨s, e, hd, hs⟩ := DataW.trod_string Try.underlying9 (hx i (by omega)).2
      simp at e
      simp only [Prod.mk.injEq] at hd
      refine ⟨s, e, hs, ?_⟩
      refine Nat.le_trans (hw s.size ?_) (by unfold reachBytes; omega)
      rw [DataW.weights, Try.underlying22]
      refine List.mem_cons_of_mem _ (List.mem_append_left _ (mem_weightsAll (d := D i) (List.mem_map.2 ⟨i, List.mem_range.2 hi, rfl⟩) ?_))
      rw [hd.1, DataW.weights]
      rw [Array.length_toList]
      exact List.mem_singleton.2 rfl)
    refine ⟨f, fun hn => ?_, fun i hi => (hff i hi).2.2⟩
    obtain ⟨b, off, spot⟩ := x
    have hspot : spot = none := by simpa [Addr.add] using World.cell?_spot (hx 0 (by omega)).1
    subst hspot
    refine ⟨b, off, rfl, ?_, fun i hi => ⟨by rw [← add_plain, ← (hff i hi).1]; exact (hx i (by omega)).1, (hff i hi).2.1⟩⟩
    have := World.block_lt_of_cell? W _ (hx 0 (by omega)).1
    simpa [Addr.add] using this

theorem view_map {r0 : Option Nat} {d : DataW H} {ps : List MemPlace} (h : DataW.Trod enc Try.prog W 0 (fun _ => true) true 25 (.map r0) d ps) : ∃ cnt L, IsMapIn W (.map r0) cnt L ∧ (r0 = none → cnt = 0) := by
  obtain ⟨fuel, hf⟩ := h
  rcases WideElems.open_map Try.underlying25 hf with ⟨hcs, _⟩ | ⟨b, es, clock, m, _, hcs, hb, _, Ft, _⟩
  · simp [Value.cells] at hcs
    subst hcs
    refine ⟨0, fun _ => (0, false), ⟨fun ty => Maps.len_nil Try.underlying25 ty, fun s hs => ⟨Maps.look_nil true law9 Try.underlying25 (zero21 W) (keyOf_kof hs), by show (-2147483648 : Int) ≤ 0; omega, by show (0 : Int) ≤ 2147483647; omega⟩⟩, fun _ => rfl⟩
  · simp [Value.cells] at hcs
    subst hcs
    have hown := World.ownsMap_of_fit (R := plainElem Try.prog 21) hb Ft (fun x _ z hz => elemAt_plainElem_int Try.underlying21 hz)
    generalize hD : (DataW.map ((es.toList.map (WideElems.rg Try.prog 9 _)).foldr DataW.insert [])) = D at hown
    have hl : ∀ s : ByteArray, ∃ y : Int × Bool, s.size ≤ maxLen → (Instr.lookup 25 (.map (some b)) (.string s) true).run Try.prog W = .ok (.tuple #[.int .i32 y.1, .bool y.2]) W ∧ -2147483648 ≤ y.1 ∧ y.1 ≤ 2147483647 := fun s => by
      by_cases hs : s.size ≤ maxLen
      · obtain ⟨v, ps, hrun, hR⟩ := hown.look_ok law9 Try.underlying25 (zero21 W) (plainElem_int Try.underlying21 (by decide)) (keyOf_kof hs)
        obtain ⟨a, rfl, _, hwf⟩ := plainElem_int_inv Try.underlying21 hR
        exact ⟨(a, _), fun _ => ⟨hrun, bounds_i32 hwf⟩⟩
      · exact ⟨(0, false), fun h => absurd h hs⟩
    refine ⟨Maps.size D, fun s => Classical.choose (hl s), ⟨fun ty => hown.len Try.underlying25 ty, fun s hs => Classical.choose_spec (hl s) hs⟩, fun h => by cases h⟩

end
end Go.Proofs.Qxb6621657a
