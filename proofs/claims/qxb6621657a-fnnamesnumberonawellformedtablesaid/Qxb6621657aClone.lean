/-
  zzCloneStrings: the walk.
-/
import Derived.Test.Qxb6621657aFm
import Derived.Deep.OwnRows
namespace Go.Proofs.Qxb6621657a
open Go.RowKit Go.Maps Go.ChangeMaps

/-- the first n names as a list -/
def lst (ss : Nat → ByteArray) (n : Nat) : List ByteArray := (List.range n).map ss
theorem lst_len (ss : Nat → ByteArray) (n : Nat) : (lst ss n).length = n := by simp [lst]
theorem lst_get (ss : Nat → ByteArray) (n i : Nat) (h : i < n) : (lst ss n)[i]? = some (ss i) := by simp [lst, h]

/-- the first k filled -/
def preS (k : Nat) (ss : Nat → ByteArray) (j : Nat) : Value := if j < k then .string (ss j) else .string ByteArray.empty

def CloneRes (w : World) (ss : Nat → ByteArray) (n : Nat) (e : Ending) (w' : World) : Prop :=
  ∃ sa scap, e = .returned (.slice sa n scap) ∧ w'.ownsRow w.heap.size 9 1 (.slice sa n scap) n ((lst ss n).map Value.string) ∧ w.grownBy w' none

theorem row_owns {w wr : World} {n : Nat} {ss : Nat → ByteArray} (h : wr.rowIs w.heap.size 9 n (preS n ss)) (hn : n ≤ 10000) : wr.ownsRow w.heap.size 9 1 (.slice (some ⟨w.heap.size, 0, none⟩) n n) n ((lst ss n).map Value.string) := by
  obtain ⟨c, hb, hc, hf⟩ := h
  refine ⟨by simp [lst], Or.inr ⟨w.heap.size, n, c, rfl, Nat.le_refl _, hb, Nat.le_refl _, by unfold maxLen; omega, by omega, ?_⟩⟩
  apply List.ext_getElem?
  intro i
  by_cases hi : i < n
  · have h1 := hf i hi
    rw [List.getElem?_take]
    simp only [Nat.mul_one, hi, if_true]
    rw [Array.getElem?_toList, h1]
    simp [lst, hi, preS]
  · rw [List.getElem?_eq_none (by simp; omega), List.getElem?_eq_none (by simp [lst]; omega)]

set_option maxRecDepth 100000 in
set_option maxHeartbeats 800000 in
theorem clone_any (a : Option Addr) (c n : Nat) (ss : Nat → ByteArray) (w : World) (h0 : IsStrs w a n ss) (hn : n ≤ 10000) :
    Calls Try.prog 8 #[.slice a n c] w fun e w' => CloneRes w ss n e w' := by
  have hnil := fun w => Lib.run_eql_slice_nil (P := Try.prog) w 22 9 a n c 0 0 Try.underlying22
  cases a with
  | none =>
    have e0 : n = 0 := by
      by_cases h : 0 < n
      · obtain ⟨b, off, e, _⟩ := h0 h
        cases e
      · omega
    subst e0
    go_enter Try.func8, Try.ntmps8
    go_wp2
    go_ret
    exact ⟨none, 0, rfl, World.ownsRow_nil _ _ _ _, ⟨rfl, rfl, rfl, Nat.le_refl _, fun _ _ _ => rfl⟩⟩
  | some ad =>
    have hmk := run_make_row' (P := Try.prog) 22 9 (.string ByteArray.empty) 16 Try.underlying22 Try.info9 rfl .i64 .i64 n (by omega) (by omega)
    go_enter Try.func8, Try.ntmps8
    go_wp2
    clear hmk hnil
    go_loopw [4] (fun i wr => ∃ k : Nat, k ≤ n ∧ i = .int .i64 k ∧ wr.rowIs w.heap.size 9 n (preS k ss) ∧ w.grownBy wr none) (fun i _ => n - (intOf i).toNat)
    case atStart => exact ⟨0, Nat.zero_le _, rfl, (World.rowIs_made w (.string ByteArray.empty) n 9).congr (fun j _ => by simp [preS]), World.grownBy_alloc w _ none⟩
    case round =>
      obtain ⟨k, hk, rfl, hrow, hg⟩ := hrel
      by_cases hlt : k < n
      · obtain ⟨b, off, e, hb, hc⟩ := h0 (by omega)
        cases e
        have e1 := (hg.cell_far ⟨b, off + k, none⟩ hb (by simp)).trans (hc k hlt).1
        have f3 := hrow.cell (i := k) hlt
        have f5 := hrow.frozen k
        have f4 : preS k ss k = .string ByteArray.empty := if_neg (Nat.lt_irrefl _)
        rw [f4] at f3
        have HR := hide (And.intro hrow hg)
        clear hc hrow f4 hg
        go_wp2
        go_roundw
        case rel =>
          refine ⟨k + 1, by omega, by go_num, (HR.out.1.set k _).congr (fun j _ => ?_), ⟨HR.out.2.os, HR.out.2.tape, HR.out.2.output, by simpa [World.setCell] using HR.out.2.size, fun j hj hne => (Below.heap_setCell _ _ _ _ (by show j ≠ w.heap.size; omega)).trans (HR.out.2.block j hj hne)⟩⟩
          unfold preS
          by_cases e : j = k
          · subst e; simp
          · by_cases hl : j < k
            · have : j < k + 1 := by omega
              simp [e, hl, this]
            · have : ¬ j < k + 1 := by omega
              simp [e, hl, this]
        case measure => simp [intOf]; omega
      · have e : n = k := by omega
        subst e
        have HF := hide (show CloneRes w ss n (.returned (.slice (some ⟨w.heap.size, 0, none⟩) n n)) wr from ⟨_, _, rfl, row_owns hrow hn, hg⟩)
        clear hrow hg
        go_wp2
        go_ret
        exact HF.out

end Go.Proofs.Qxb6621657a
