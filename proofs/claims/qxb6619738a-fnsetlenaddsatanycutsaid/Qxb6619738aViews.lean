/-
  THE ARGUMENTS AS THEY CAME IN, as the walks want them.
-/
import Derived.Test.Qxb6619738aRows
import Derived.Test.Qxb6619738aBase
import Derived.ProofKit
import Derived.OpenShut
import Derived.ShutString
import Derived.ChangeOld
import Derived.Below
import Derived.Deep.Slices
namespace Go.Proofs.Qxb6619738a
open Go.ChangeShapes Go.WideShapes Go.ChangeAt Go.RowKit

theorem own : ownKnob Try.prog.godebug = none := by kernel_rfl
theorem laidOut : laidOutB Try.prog = true := by kernel_rfl
theorem Try.cells3 : Try.prog.cellsOf 3 = 1 := by kernel_rfl
theorem Try.cells33 : Try.prog.cellsOf 33 = 1 := by kernel_rfl
theorem Try.cells34 : Try.prog.cellsOf 34 = 2 := by kernel_rfl

section
variable {H : Type} {enc : TypeId × Value → H} {W : World}

theorem view_ints {a : Option Addr} {len cap : Nat} {d : DataW H} {ps : List MemPlace} (h : DataW.Trod enc Try.prog W 0 (fun _ => true) true 22 (.slice a len cap) d ps) : ∃ z, IsInts W (.slice a len cap) len z := by
  obtain ⟨fuel, hf⟩ := h
  rcases open_ints Try.underlying22 Try.underlying3 Try.cells3 hf with ⟨hcs, _⟩ | ⟨x, l, c, zs, hcs, _, hl, hm, hz, _, hcell, hwz⟩
  · simp [Value.cells] at hcs
    obtain ⟨rfl, rfl, rfl⟩ := hcs
    exact ⟨fun _ => 0, _, _, rfl, fun h => absurd h (Nat.lt_irrefl _)⟩
  · simp [Value.cells] at hcs
    obtain ⟨rfl, rfl, rfl⟩ := hcs
    simp only [if_true] at hz
    refine ⟨fun i => zs.getD i 0, _, _, rfl, fun hn => ?_⟩
    obtain ⟨b, off, spot⟩ := x
    have hspot : spot = none := by simpa [Addr.add] using World.cell?_spot (hcell 0 (by omega))
    subst hspot
    refine ⟨b, off, rfl, ?_, fun i hi => ⟨by rw [← add_plain]; exact hcell i (by omega), hwz _ (by simp [List.getD, show i < zs.length by omega])⟩⟩
    have := World.block_lt_of_cell? W _ (hcell 0 (by omega))
    simpa [Addr.add] using this

theorem view_runs {fuel : Nat} {u : Value} {x : DataW H × List MemPlace} (h : DataW.trod enc Try.prog W 0 (fun _ => true) true fuel 33 [u] = some x) : ∃ y : Nat × (Nat → Int) × (Nat → Int), IsRuns W u y.1 y.2.1 y.2.2 := by
  rcases Deep.open_slice Try.underlying33 h with ⟨hcs, _⟩ | ⟨a, len, cap, m, n, D, Pl, hcs, _, hl, hm, hmm, _, hx⟩
  · simp at hcs
    subst hcs
    exact ⟨(0, fun _ => 0, fun _ => 0), none, 0, rfl, fun h => absurd h (Nat.lt_irrefl _)⟩
  · simp at hcs
    subst hcs
    simp only [if_true] at hmm
    subst hmm
    have each : ∀ i, i < len → ∃ y : Int × Int, W.cell? (a.add (i * 2)) = some (.int .i64 y.1) ∧ W.cell? (a.add (i * 2 + 1)) = some (.int .i64 y.2) := by
      intro i hi
      obtain ⟨cs', h1, h2⟩ := hx i (by omega)
      rw [Try.cells34] at h1
      obtain ⟨_, hlen, hcell⟩ := World.cells?_some h1
      obtain ⟨xs, k, _, _, _, hxl, hf⟩ := DataW.trod_array Try.underlying34 h2
      match xs, hxl, cs', hlen with
      | [y0, y1], _, [v0, v1], _ =>
        have g0 := hf 0 (by omega)
        have g1 := hf 1 (by omega)
        simp [Try.cells3] at g0 g1
        obtain ⟨n0, e0, _, _⟩ := DataW.trod_int Try.underlying3 g0
        obtain ⟨n1, e1, _, _⟩ := DataW.trod_int Try.underlying3 g1
        simp at e0 e1
        subst e0 e1
        have c0 := hcell 0 (by omega)
        have c1 := hcell 1 (by omega)
        rw [Deep.add_add] at c0 c1
        exact ⟨(n0, n1), by simpa using c0, by simpa using c1⟩
    obtain ⟨f, hf⟩ := Deep.choose_lt each
    refine ⟨(len, fun i => (f i).1, fun i => (f i).2), _, _, rfl, fun hn => ?_⟩
    have hn : 0 < len := hn
    obtain ⟨b, off, spot⟩ := a
    have hspot : spot = none := by simpa [Addr.add] using World.cell?_spot (hf 0 hn).1
    subst hspot
    refine ⟨b, off, rfl, ?_, fun i hi => ⟨by rw [← add_plain]; exact (hf i hi).1, by rw [Nat.add_assoc, ← add_plain]; exact (hf i hi).2⟩⟩
    have := World.block_lt_of_cell? W _ (hf 0 hn).1
    simpa [Addr.add] using this

theorem view_rows {a : Option Addr} {len cap : Nat} {d : DataW H} {ps : List MemPlace} (h : DataW.Trod enc Try.prog W 0 (fun _ => true) true 23 (.slice a len cap) d ps) : ∃ L p q, IsRows W (.slice a len cap) len L p q := by
  obtain ⟨fuel, hf⟩ := h
  rcases Deep.open_slice1 Try.underlying23 Try.cells33 hf with ⟨hcs, _⟩ | ⟨x, l, c, m, n, V, D, Pl, hcs, _, hl, hm, hmm, _, hx⟩
  · simp [Value.cells] at hcs
    obtain ⟨rfl, rfl, rfl⟩ := hcs
    exact ⟨fun _ => 0, fun _ _ => 0, fun _ _ => 0, _, _, rfl, fun h => absurd h (Nat.lt_irrefl _)⟩
  · simp [Value.cells] at hcs
    obtain ⟨rfl, rfl, rfl⟩ := hcs
    simp only [if_true] at hmm
    subst hmm
    obtain ⟨f, hff⟩ := Deep.choose_lt (n := len) (p := fun i (y : Nat × (Nat → Int) × (Nat → Int)) => IsRuns W (V i) y.1 y.2.1 y.2.2) (fun i hi => view_runs (hx i (by omega)).2)
    refine ⟨fun i => (f i).1, fun i => (f i).2.1, fun i => (f i).2.2, _, _, rfl, fun hn => ?_⟩
    obtain ⟨b, off, spot⟩ := x
    have hspot : spot = none := by simpa [Addr.add] using World.cell?_spot (hx 0 (by omega)).1
    subst hspot
    refine ⟨b, off, rfl, ?_, fun i hi => ⟨V i, by rw [← add_plain]; exact (hx i (by omega)).1, hff i hi⟩⟩
    have := World.block_lt_of_cell? W _ (hx 0 (by omega)).1
    simpa [Addr.add] using this

theorem view_len {t e : TypeId} {a : Option Addr} {len cap : Nat} {d : DataW H} {ps : List MemPlace} (ht : Try.prog.underlying t = some (.slice e)) (h : DataW.Trod enc Try.prog W 0 (fun _ => true) true t (.slice a len cap) d ps) : len ≤ cap := by
  obtain ⟨fuel, hf⟩ := h
  rcases Deep.open_slice ht hf with ⟨hcs, _⟩ | ⟨x, l, c, m, n, D, Pl, hcs, _, hl, _⟩
  · simp [Value.cells] at hcs
    omega
  · simp [Value.cells] at hcs
    omega

end
end Go.Proofs.Qxb6619738a
