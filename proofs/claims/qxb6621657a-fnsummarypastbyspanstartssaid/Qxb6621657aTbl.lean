/-
  THE TABLE OF NAMES: a slice of names of the call's own, and a map that has just those names, each to its place.
-/
import Derived.Test.Qxb6621657aProg
import Derived.WalkKit
import Derived.WalkSpells
import Derived.Maps.OwnSet
import Derived.WideKeyEntry
import Derived.Deep.AppendLies
namespace Go.Proofs.Qxb6621657a
open Go.RowKit Go.Maps Go.ChangeMaps

theorem hide {p : Prop} (h : p) : Hid p := h
theorem unhide {p : Prop} (h : Hid p) : p := h

theorem law9 : Keyed Try.prog 9 := string_keyed Try.underlying9
theorem klaw9 : WideMaps.KeyLaw Try.prog 9 := WideMaps.string_law Try.underlying9
theorem zero21 (w : World) : (zeroValue 21).run Try.prog w = .ok (.int .i32 0) w := by kernel_rfl
theorem Try.info9 : (Try.prog.info? 9).map (fun i => (i.zero, i.size, i.bytes)) = some (some (.string ByteArray.empty), 1, 16) := by kernel_rfl

/-- what a name reads as among the keys -/
def kof (s : ByteArray) : Lit := .string s.data.toList
theorem kof_inj {a b : ByteArray} (h : kof a = kof b) : a = b := by
  simp only [kof, Lit.string.injEq] at h
  apply ByteArray.ext
  exact Array.toList_inj.1 h
theorem kof_key (s : ByteArray) : WideAt.IsKeyLit (kof s) := trivial
theorem keyOf_kof {s : ByteArray} (h : s.size ≤ maxLen) : keyOf Try.prog 9 (.string s) = some (kof s) := WideMaps.keyOf_string_mk Try.underlying9 h

/-- D has just the names ms, each to its place -/
def TD (D : DataW Unit) (ms : List ByteArray) : Prop :=
  Maps.size D = ms.length ∧ (∀ s : ByteArray, Maps.has D (kof s) = true ↔ s ∈ ms) ∧ ∀ (i : Nat) (s : ByteArray), ms[i]? = some s → D.atKey (kof s) (.lit (.int .i32 0)) = .lit (.int .i32 i)

theorem TD.nil : TD (.map []) [] := ⟨rfl, fun s => by simp [Maps.has_eq], fun i s h => by simp at h⟩

theorem TD.put {D : DataW Unit} {ms : List ByteArray} (h : TD D ms) (hT : Maps.Tidy D) {s : ByteArray} (hs : s ∉ ms) : TD (D.put (kof s) (.lit (.int .i32 (ms.length : Nat)))) (ms ++ [s]) := by
  obtain ⟨h1, h2, h3⟩ := h
  have hno : Maps.has D (kof s) = false := by
    cases hh : Maps.has D (kof s)
    · rfl
    · exact absurd ((h2 s).1 hh) hs
  refine ⟨?_, fun u => ?_, fun i u hu => ?_⟩
  · rw [size_put hT, hno]
    simp [h1]
  · by_cases e : u = s
    · subst e
      rw [has_put_same hT.isMap (kof_key _)]
      simp
    · rw [has_put_other (fun e1 => e (kof_inj e1)), h2 u]
      simp [e]
  · by_cases hi : i < ms.length
    · rw [List.getElem?_append_left hi] at hu
      have hne : u ≠ s := fun e => hs (e ▸ List.mem_of_getElem? hu)
      rw [atKey_put_other (fun e1 => hne (kof_inj e1))]
      exact h3 i u hu
    · have hi' : i = ms.length := by
        have := (List.getElem?_eq_some_iff.1 hu).1
        simp at this
        omega
      subst hi'
      simp at hu
      subst hu
      exact atKey_put_same hT.isMap (kof_key _) _ _

/-- THE TABLE -/
def Tbl (w : World) (base : Nat) (mv sv : Value) (ms : List ByteArray) : Prop :=
  w.ownsRow base 9 1 sv ms.length (ms.map Value.string) ∧ ms.Nodup ∧ (∀ s ∈ ms, s.size ≤ maxLen) ∧
  ((mv = .map none ∧ ms = []) ∨ ∃ b D, mv = .map (some b) ∧ base ≤ b ∧ w.ownsMap Try.prog 9 (plainElem Try.prog 21) b ms.length D ∧ TD D ms)

theorem Tbl.nil (w : World) (base : Nat) : Tbl w base (.map none) (.slice none 0 0) [] := ⟨World.ownsRow_nil _ _ _ _, List.nodup_nil, by simp, Or.inl ⟨rfl, rfl⟩⟩

theorem Tbl.kept {w w' : World} {base : Nat} {mv sv : Value} {ms : List ByteArray} {row : Option Nat} (h : Tbl w base mv sv ms) (hg : w.grownBy w' row) (h1 : ∀ b, mv = .map (some b) → some b ≠ row) (h2 : sv.ownBlock = none ∨ sv.ownBlock ≠ row) : Tbl w' base mv sv ms := by
  obtain ⟨a, b, c, d⟩ := h
  refine ⟨a.kept hg h2, b, c, ?_⟩
  rcases d with d | ⟨m, D, rfl, hb, hown, hD⟩
  · exact Or.inl d
  · exact Or.inr ⟨m, D, rfl, hb, hown.kept hg (h1 m rfl), hD⟩

theorem Tbl.look_in {w : World} {base : Nat} {mv sv : Value} {ms : List ByteArray} (h : Tbl w base mv sv ms) {i : Nat} {s : ByteArray} (hi : ms[i]? = some s) : (Instr.lookup 25 mv (.string s) true).run Try.prog w = .ok (.tuple #[.int .i32 i, .bool true]) w := by
  obtain ⟨_, _, hsz, d⟩ := h
  have hmem := List.mem_of_getElem? hi
  rcases d with ⟨_, rfl⟩ | ⟨b, D, rfl, _, hown, h1, h2, h3⟩
  · simp at hi
  · obtain ⟨v, ps, hrun, hR⟩ := hown.look_ok law9 Try.underlying25 (zero21 w) (plainElem_int Try.underlying21 (by decide)) (keyOf_kof (hsz s hmem))
    rw [h3 i s hi] at hR
    obtain ⟨a, rfl, e, _⟩ := plainElem_int_inv Try.underlying21 hR
    simp only [Prod.mk.injEq, DataW.lit.injEq, Lit.int.injEq, true_and] at e
    rw [← e.1] at hrun
    rw [(h2 s).2 hmem] at hrun
    exact hrun

theorem Tbl.look_out {w : World} {base : Nat} {mv sv : Value} {ms : List ByteArray} (h : Tbl w base mv sv ms) {s : ByteArray} (hs : s ∉ ms) (hz : s.size ≤ maxLen) : (Instr.lookup 25 mv (.string s) true).run Try.prog w = .ok (.tuple #[.int .i32 0, .bool false]) w := by
  obtain ⟨_, _, _, d⟩ := h
  rcases d with ⟨rfl, rfl⟩ | ⟨b, D, rfl, _, hown, h1, h2, h3⟩
  · exact Maps.look_nil true law9 Try.underlying25 (zero21 w) (keyOf_kof hz)
  · obtain ⟨v, ps, hrun, hR⟩ := hown.look_ok law9 Try.underlying25 (zero21 w) (plainElem_int Try.underlying21 (by decide)) (keyOf_kof hz)
    have hno : Maps.has D (kof s) = false := by
      cases hh : Maps.has D (kof s)
      · rfl
      · exact absurd ((h2 s).1 hh) hs
    rw [atKey_of_not_has hno] at hR
    obtain ⟨a, rfl, e, _⟩ := plainElem_int_inv Try.underlying21 hR
    simp only [Prod.mk.injEq, DataW.lit.injEq, Lit.int.injEq, true_and] at e
    rw [← e.1, hno] at hrun
    exact hrun

theorem Tbl.len {w : World} {base : Nat} {mv sv : Value} {ms : List ByteArray} (h : Tbl w base mv sv ms) (ty : TypeId) : (Builtin.len_ #[25] ty #[mv]).run Try.prog w = .ok (.int .i64 (ms.length : Nat)) w := by
  obtain ⟨_, _, _, d⟩ := h
  rcases d with ⟨rfl, rfl⟩ | ⟨b, D, rfl, _, hown, h1, _⟩
  · exact Maps.len_nil Try.underlying25 ty
  · rw [hown.len Try.underlying25 ty, h1]

end Go.Proofs.Qxb6621657a
