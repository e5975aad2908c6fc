/-
  (*Counts).add, ZZCountsAdd, zzRow and the guard: the walks.
-/
import Derived.Test.Qxb6619846aProg
import Derived.WalkKit
import Derived.WalkSpells
import Derived.RegionTactic
import Derived.BigRegion
import Derived.Maps.AppendAt
namespace Go.Proofs.Qxb6619846a
open Go.RowKit

/-- block g holds a Counts of a, b, c -/
def CntAt (w : World) (g : Nat) (a b c : Int) : Prop := w.heap[g]? = some (.cells #[.int .i64 a, .int .i64 b, .int .i64 c] 28 (0, 0))

theorem blk_set {w : World} {g i : Nat} {arr : Array Value} {t : TypeId} {fr : Nat × Nat} (h : w.heap[g]? = some (.cells arr t fr)) (v : Value) : (w.setCell ⟨g, i, none⟩ v).heap[g]? = some (.cells (arr.setIfInBounds i v) t fr) := by
  simp [World.setCell, Array.getElem?_modify, h]

theorem grown_set (w : World) (g i : Nat) (v : Value) : w.grownBy (w.setCell ⟨g, i, none⟩ v) (some g) :=
  ⟨rfl, rfl, rfl, by simp [World.setCell], fun k _ hk => Below.heap_setCell _ _ _ _ (fun e => hk (by rw [e]))⟩

/-- the three fields stored anew, a box laid, three draws -/
theorem cnt_set {w : World} {g : Nat} {a b c : Int} (h : CntAt w g a b c) (hg : g < w.heap.size) (a' b' c' : Int) (o : Obj) :
    CntAt ((((w.setCell ⟨g, 0, none⟩ (.int .i64 a')).setCell ⟨g, 1, none⟩ (.int .i64 b')).setCell ⟨g, 2, none⟩ (.int .i64 c')).alloc o).drew.drew.drew g a' b' c' ∧
    w.grownBy ((((w.setCell ⟨g, 0, none⟩ (.int .i64 a')).setCell ⟨g, 1, none⟩ (.int .i64 b')).setCell ⟨g, 2, none⟩ (.int .i64 c')).alloc o).drew.drew.drew (some g) := by
  constructor
  · show ((((w.setCell ⟨g, 0, none⟩ (.int .i64 a')).setCell ⟨g, 1, none⟩ (.int .i64 b')).setCell ⟨g, 2, none⟩ (.int .i64 c')).alloc o).heap[g]? = _
    rw [Below.heap_alloc _ _ _ (by simpa [World.setCell] using hg), blk_set (blk_set (blk_set h _) _) _]
    rfl
  · have h1 := (((grown_set w g 0 (.int .i64 a')).trans (grown_set _ g 1 (.int .i64 b'))).trans (grown_set _ g 2 (.int .i64 c'))).trans (World.grownBy_alloc _ o (some g))
    exact ⟨h1.os, h1.tape, h1.output, h1.size, h1.block⟩

set_option maxRecDepth 100000 in
set_option maxHeartbeats 800000 in
theorem add_any (g : Nat) (a b c x y z : Int) (w : World) (h : CntAt w g a b c) :
    Calls Try.prog 12 #[.pointer (some ⟨g, 0, none⟩), .agg #[.int .i64 x, .int .i64 y, .int .i64 z]] w fun e w' => e = .returned (.tuple #[]) ∧ CntAt w' g (wrap64 (a + x)) (wrap64 (b + y)) (wrap64 (c + z)) ∧ w.grownBy w' (some g) := by
  have hg : g < w.heap.size := (Array.getElem?_eq_some_iff.1 h).1
  have c0 : w.cell? ⟨g, 0, none⟩ = some (.int .i64 a) := by simp [World.cell?, show w.heap[g]? = _ from h]
  have c1 : w.cell? ⟨g, 1, none⟩ = some (.int .i64 b) := by simp [World.cell?, show w.heap[g]? = _ from h]
  have c2 : w.cell? ⟨g, 2, none⟩ = some (.int .i64 c) := by simp [World.cell?, show w.heap[g]? = _ from h]
  have f0 : ∀ o, w.frozen? ⟨g, o, none⟩ = false := fun o => by simp [World.frozen?, show w.heap[g]? = _ from h]
  have H := h
  clear h
  go_enter Try.func12, Try.ntmps12
  go_wp2
  go_region
  go_wp2
  go_region
  go_wp2
  go_region
  go_wp2
  go_end0
  exact ⟨rfl, cnt_set H hg _ _ _ _⟩

set_option maxRecDepth 100000 in
set_option maxHeartbeats 800000 in
theorem zzadd_any (g : Nat) (a b c x y z : Int) (w : World) (h : CntAt w g a b c) :
    Calls Try.prog 9 #[.pointer (some ⟨g, 0, none⟩), .agg #[.int .i64 x, .int .i64 y, .int .i64 z]] w fun e w' => e = .returned (.tuple #[]) ∧ CntAt w' g (wrap64 (a + x)) (wrap64 (b + y)) (wrap64 (c + z)) ∧ w.grownBy w' (some g) := by
  have hg : g < w.heap.size := (Array.getElem?_eq_some_iff.1 h).1
  go_enter Try.func9, Try.ntmps9
  go_wp2_with fail
  refine (add_any g a b c x y z _ ((Below.heap_alloc _ _ _ hg).trans h)).mono ?_
  rintro e w1 ⟨rfl, h1, h2⟩
  go_wp2
  go_end0
  exact ⟨rfl, h1, (World.grownBy_alloc w _ (some g)).trans h2⟩

set_option maxRecDepth 100000 in
set_option maxHeartbeats 800000 in
theorem row_any (x y z : Int) (w : World) :
    Calls Try.prog 10 #[.agg #[.int .i64 x, .int .i64 y, .int .i64 z]] w fun e w' => e = .returned (.agg #[.int .i64 x, .int .i64 y, .int .i64 z]) ∧ w.grownBy w' none := by
  go_enter Try.func10, Try.ntmps10
  go_wp2
  exact bodyPost_ret (v := .agg #[.int .i64 x, .int .i64 y, .int .i64 z]) (by simp [results, Try.results10, go_sem]) rfl ⟨rfl, (World.grownBy_alloc w _ none).trans (World.grownBy_alloc _ _ none)⟩

theorem cbytes_any (p r f k : Int) (a : Option Addr) (n c : Nat) (w : World) (b : Bool) (hb : decide (n ≤ 1048576) = b) :
    Calls Try.prog 8 #[.int .i64 p, .int .i64 r, .int .i64 f, .slice a n c, .int .i64 k] w fun e w' => e = .returned (.bool b) ∧ w = w' := by
  by_cases h : (1048576 : Int) < n
  · have e : b = false := by rw [← hb]; simp; omega
    subst e
    clear hb
    go_enter Try.func8, Try.ntmps8
    go_wp2
    go_ret
    exact ⟨rfl, rfl⟩
  · have e : b = true := by rw [← hb]; simp; omega
    subst e
    clear hb
    go_enter Try.func8, Try.ntmps8
    go_wp2
    go_ret
    exact ⟨rfl, rfl⟩

end Go.Proofs.Qxb6619846a
