/-
  ZZNamesNumber: the walk.
-/
import Derived.Test.Qxb6621657aNum
import Derived.Deep.QuietTactic
import Derived.BigQuiet
import Derived.WalkSmall
namespace Go.Proofs.Qxb6621657a
open Go.RowKit Go.Maps Go.ChangeMaps

/-- what ZZNamesNumber answers and leaves -/
def ZRes (w : World) (base : Nat) (ms : List ByteArray) (name : ByteArray) (e : Ending) (w' : World) : Prop :=
  ∃ (i : Nat) (r : Option Nat) (sa : Option Addr) (scap : Nat) (ms' : List ByteArray), e = .returned (.tuple #[.int .i32 i, .map r, .slice sa ms'.length scap]) ∧ ms'[i]? = some name ∧ (ms' = ms ∨ (name ∉ ms ∧ ms' = ms ++ [name])) ∧ Tbl w' base (.map r) (.slice sa ms'.length scap) ms' ∧ Below base w w'

theorem Tbl.mshape {w : World} {base : Nat} {mv sv : Value} {ms : List ByteArray} (h : Tbl w base mv sv ms) : ∃ r, mv = .map r := by
  rcases h.2.2.2 with ⟨rfl, _⟩ | ⟨b, D, rfl, _⟩
  · exact ⟨_, rfl⟩
  · exact ⟨_, rfl⟩

theorem grown_drewN (w : World) (n : Nat) : w.grownBy (w.drewN n) none := ⟨rfl, rfl, rfl, Nat.le_refl _, fun _ _ _ => rfl⟩
theorem Tbl.drewN {w : World} {base : Nat} {mv sv : Value} {ms : List ByteArray} (h : Tbl w base mv sv ms) (n : Nat) : Tbl (w.drewN n) base mv sv ms :=
  h.kept (grown_drewN w n) (by simp) (by cases sv.ownBlock <;> simp)

set_option maxRecDepth 100000 in
set_option maxHeartbeats 1600000 in
theorem zz_any (base : Nat) (r : Option Nat) (sa : Option Addr) (scap : Nat) (ms : List ByteArray) (name : ByteArray) (like : Int) (w : World) (hT : Tbl w base (.map r) (.slice sa ms.length scap) ms) (hbase : base ≤ w.heap.size) (hz : name.size ≤ 1048576) (hlen : ms.length ≤ 10000)
    (hlike : like = -1 ∨ ∃ j : Nat, like = j ∧ j < ms.length) :
    Calls Try.prog 7 #[.map r, .slice sa ms.length scap, .string name, .int .i32 like] w fun e w' => ZRes w base ms name e w' := by
  have hT1 := hT.kept (World.grownBy_alloc w (.cells #[.map r, .slice sa ms.length scap, .slice none 0 0, .slice none 0 0] 36) none) (by simp) (by cases sa <;> simp [Value.ownBlock])
  have hG1 : NsAt (w.alloc (.cells #[.map r, .slice sa ms.length scap, .slice none 0 0, .slice none 0 0] 36)) w.heap.size (.map r) (.slice sa ms.length scap) := heap_alloc_new w _
  have H1 := hide (And.intro hT1 hG1)
  clear hT1 hG1 hT
  go_enter Try.func7, Try.ntmps7
  go_wp2_with fail
  refine (number_any w.heap.size base _ _ ms name like _ H1.out.2 hbase H1.out.1 hz hlen hlike).mono ?_
  rintro e w' ⟨i, mv', sv', ms', rfl, hi, hms, hT', hG', hB'⟩
  obtain ⟨r', rfl⟩ := hT'.mshape
  obtain ⟨sa', scap', rfl⟩ := hT'.shape
  obtain ⟨c0, c1, _, hgl⟩ := hG'.cells
  have H2 := hide (And.intro hi (And.intro hms (And.intro hT' (((Below.refl base w).alloc hbase _).trans hB'))))
  clear hi hms hT' hG' hB'
  go_wp2_with fail
  go_quiet (fail)
  go_wp2
  go_ret3
  exact ⟨i, r', sa', scap', ms', rfl, H2.out.1, H2.out.2.1, H2.out.2.2.1.drewN nq, below_drewN H2.out.2.2.2 _⟩

end Go.Proofs.Qxb6621657a
