/-
  THE ARGUMENTS AS THEY CAME IN, as the walks want them.
-/
import Derived.Test.Qxb6621657aRows
import Derived.Test.Qxb6621657aFm
import Derived.ProofKit
import Derived.OpenShut
import Derived.ShutString
import Derived.ChangeOld
import Derived.Below
import Derived.Deep.Slices
namespace Go.Proofs.Qxb6621657a
open Go.ChangeShapes Go.WideShapes Go.ChangeAt Go.RowKit

theorem own : ownKnob Try.prog.godebug = none := by kernel_rfl
theorem laidOut : laidOutB Try.prog = true := by kernel_rfl
theorem Try.cells21 : Try.prog.cellsOf 21 = 1 := by kernel_rfl
theorem Try.cells9 : Try.prog.cellsOf 9 = 1 := by kernel_rfl

section
variable {H : Type} {enc : TypeId × Value → H} {W : World}

theorem view_i32s {a : Option Addr} {len cap : Nat} {d : DataW H} {ps : List MemPlace} (h : DataW.Trod enc Try.prog W 0 (fun _ => true) true 23 (.slice a len cap) d ps) : ∃ z, IsI32s W a len z := by
  obtain ⟨fuel, hf⟩ := h
  rcases open_ints Try.underlying23 Try.underlying21 Try.cells21 hf with ⟨hcs, _⟩ | ⟨x, l, c, zs, hcs, _, hl, hm, hz, _, hcell, hwz⟩
  · simp [Value.cells] at hcs
    obtain ⟨rfl, rfl, rfl⟩ := hcs
    exact ⟨fun _ => 0, fun h => absurd h (Nat.lt_irrefl _)⟩
  · simp [Value.cells] at hcs
    obtain ⟨rfl, rfl, rfl⟩ := hcs
    simp only [if_true] at hz
    refine ⟨fun i => zs.getD i 0, fun hn => ?_⟩
    obtain ⟨b, off, spot⟩ := x
    have hspot : spot = none := by simpa [Addr.add] using World.cell?_spot (hcell 0 (by omega))
    subst hspot
    refine ⟨b, off, rfl, ?_, fun i hi => ⟨by rw [← add_plain]; exact hcell i (by omega), bounds_i32 (hwz _ (by simp [List.getD, show i < zs.length by omega]))⟩⟩
    have := World.block_lt_of_cell? W _ (hcell 0 (by omega))
    simpa [Addr.add] using this

theorem view_strs {a : Option Addr} {len cap : Nat} {d : DataW H} {ps : List MemPlace} (h : DataW.Trod enc Try.prog W 0 (fun _ => true) true 22 (.slice a len cap) d ps) : ∃ ss, IsStrs W a len ss := by
  obtain ⟨fuel, hf⟩ := h
  rcases Deep.open_slice1 Try.underlying22 Try.cells9 hf with ⟨hcs, _⟩ | ⟨x, l, c, m, n, V, D, Pl, hcs, _, hl, hm, hmm, _, hx⟩
  · simp [Value.cells] at hcs
    obtain ⟨rfl, rfl, rfl⟩ := hcs
    exact ⟨fun _ => ByteArray.empty, fun h => absurd h (Nat.lt_irrefl _)⟩
  · simp [Value.cells] at hcs
    obtain ⟨rfl, rfl, rfl⟩ := hcs
    simp only [if_true] at hmm
    subst hmm
    obtain ⟨f, hff⟩ := Deep.choose_lt (α := ByteArray) (n := len) (p := fun i (s : ByteArray) => V i = .string s ∧ s.size ≤ maxLen) (fun i hi => by
      obtain ⟨s, e, _, hs⟩ := DataW.trod_string Try.underlying9 (hx i (by omega)).2
      simp at e
      exact ⟨s, e, hs⟩)
    refine ⟨f, fun hn => ?_⟩
    obtain ⟨b, off, spot⟩ := x
    have hspot : spot = none := by simpa [Addr.add] using World.cell?_spot (hx 0 (by omega)).1
    subst hspot
    refine ⟨b, off, rfl, ?_, fun i hi => ⟨by rw [← add_plain, ← (hff i hi).1]; exact (hx i (by omega)).1, (hff i hi).2⟩⟩
    have := World.block_lt_of_cell? W _ (hx 0 (by omega)).1
    simpa [Addr.add] using this

theorem view_len {t e : TypeId} {a : Option Addr} {len cap : Nat} {d : DataW H} {ps : List MemPlace} (ht : Try.prog.underlying t = some (.slice e)) (h : DataW.Trod enc Try.prog W 0 (fun _ => true) true t (.slice a len cap) d ps) : len ≤ maxLen := by
  obtain ⟨fuel, hf⟩ := h
  rcases Deep.open_slice ht hf with ⟨hcs, _⟩ | ⟨x, l, c, m, n, D, Pl, hcs, _, hl, hm, _⟩
  · simp [Value.cells] at hcs
    rw [hcs.2.1]
    exact Nat.zero_le _
  · simp [Value.cells] at hcs
    omega

end
end Go.Proofs.Qxb6621657a
