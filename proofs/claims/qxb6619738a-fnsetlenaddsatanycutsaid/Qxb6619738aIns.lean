/-
  ONE MORE ENTRY IN THE MIDST: plain, and the two rows that the law fills.
-/
import Derived.Test.Qxb6619738aBase
import Derived.Deep.OwnRows
import Derived.Deep.Slices
import Derived.Laws.CopyOwn
namespace Go.Proofs.Qxb6619738a
open Go.RowKit

/-- f with a put in at place i -/
def ins {α : Type} (i : Nat) (f : Nat → α) (a : α) (j : Nat) : α := if j < i then f j else if j = i then a else f (j - 1)

theorem sumZ_ins (f : Nat → Int) (a : Int) (i n : Nat) (h : i ≤ n) : sumZ (ins i f a) (n + 1) = sumZ f n + a := by
  obtain ⟨d, rfl⟩ : ∃ d, n = i + d := ⟨n - i, by omega⟩
  rw [show i + d + 1 = i + (1 + d) by omega, sumZ_add, sumZ_add, sumZ_add f i d]
  have e1 : sumZ (ins i f a) i = sumZ f i := sumZ_congr i (fun j hj => by simp [ins, hj])
  have e2 : sumZ (fun j => ins i f a (i + j)) 1 = a := by simp [sumZ, ins]
  have e3 : sumZ (fun j => ins i f a (i + (1 + j))) d = sumZ (fun j => f (i + j)) d := sumZ_congr d (fun j _ => by
    have h1 : ¬ (i + (1 + j) < i) := by omega
    have h2 : ¬ (i + (1 + j) = i) := by omega
    have h3 : i + (1 + j) - 1 = i + j := by omega
    unfold ins
    rw [if_neg h1, if_neg h2, h3])
  rw [e1, e2, e3]
  omega
theorem sumN_ins (f : Nat → Nat) (a : Nat) (i n : Nat) (h : i ≤ n) : sumN (ins i f a) (n + 1) = sumN f n + a := by
  obtain ⟨d, rfl⟩ : ∃ d, n = i + d := ⟨n - i, by omega⟩
  rw [show i + d + 1 = i + (1 + d) by omega, sumN_add, sumN_add, sumN_add f i d]
  have e1 : sumN (ins i f a) i = sumN f i := sumN_congr i (fun j hj => by simp [ins, hj])
  have e2 : sumN (fun j => ins i f a (i + j)) 1 = a := by simp [sumN, ins]
  have e3 : sumN (fun j => ins i f a (i + (1 + j))) d = sumN (fun j => f (i + j)) d := sumN_congr d (fun j _ => by
    have h1 : ¬ (i + (1 + j) < i) := by omega
    have h2 : ¬ (i + (1 + j) = i) := by omega
    have h3 : i + (1 + j) - 1 = i + j := by omega
    unfold ins
    rw [if_neg h1, if_neg h2, h3])
  rw [e1, e2, e3]
  omega

theorem allSum_ins (L : Nat → Nat) (p q : Nat → Nat → Int) (x : Int) (i n : Nat) (h : i ≤ n) :
    allSum (ins i L 1) (ins i p (fun _ => x)) (ins i q (fun _ => x)) (n + 1) = allSum L p q n + 1 := by
  unfold allSum
  rw [← sumZ_ins (fun j => rowSum (p j) (q j) (L j)) 1 i n h]
  refine sumZ_congr _ (fun j _ => ?_)
  unfold ins
  split
  · rfl
  · split
    · simp [rowSum, sumZ]
    · rfl

/-- the law's answer -/
theorem one_more (T : Int) : (wrap64 (T + 1) == wrap64 (wrap64 T + 1)) = true := by
  have : wrap64 (T + 1) = wrap64 (wrap64 T + 1) := wrap64_mod _ _ (by have := wrap64_emod T; omega)
  simp [this]

def rowV (A : Nat → Option Addr) (L Cp : Nat → Nat) (j : Nat) : Value := .slice (A j) (L j) (Cp j)

theorem IsRows.fn {w : World} {a : Option Addr} {cap : Nat} {n : Nat} {L : Nat → Nat} {p q : Nat → Nat → Int} (h : IsRows w (.slice a n cap) n L p q) : ∃ (A : Nat → Option Addr) (Cp : Nat → Nat), 0 < n → ∃ b off, a = some ⟨b, off, none⟩ ∧ b < w.heap.size ∧
    ∀ i, i < n → w.cell? ⟨b, off + i, none⟩ = some (.slice (A i) (L i) (Cp i)) ∧ IsRuns w (.slice (A i) (L i) (Cp i)) (L i) (p i) (q i) := by
  by_cases hn : 0 < n
  case neg => exact ⟨fun _ => none, fun _ => 0, fun h => absurd h hn⟩
  obtain ⟨a', cap', e, h⟩ := h
  cases e
  obtain ⟨b, off, rfl, hb, hc⟩ := h hn
  obtain ⟨f, hf⟩ := Deep.choose_lt (α := Option Addr × Nat) (n := n) (p := fun i y => w.cell? ⟨b, off + i, none⟩ = some (.slice y.1 (L i) y.2) ∧ IsRuns w (.slice y.1 (L i) y.2) (L i) (p i) (q i)) (fun i hi => by
    obtain ⟨u, hu, hr⟩ := hc i hi
    obtain ⟨a', cap', rfl, hr'⟩ := id hr
    exact ⟨(a', cap'), hu, hr⟩)
  exact ⟨fun i => (f i).1, fun i => (f i).2, fun _ => ⟨b, off, rfl, hb, hf⟩⟩

/-- the two rows that the law fills: blocks C and C + 1, n + 1 cells each -/
def Two (wc wr : World) (C n : Nat) (f : Nat → Int) (g : Nat → Value) : Prop :=
  wr.rowIs C 3 (n + 1) (fun j => .int .i64 (f j)) ∧ wr.rowIs (C + 1) 33 (n + 1) g ∧ Below C wc wr ∧ C + 2 ≤ wr.heap.size

theorem Two.step {wc wr : World} {C n : Nat} {f f' : Nat → Int} {g g' : Nat → Value} (h : Two wc wr C n f g) (k : Nat) (a : Int) (u : Value) (hf : ∀ j, j < n + 1 → f' j = if j = k then a else f j) (hg : ∀ j, j < n + 1 → g' j = if j = k then u else g j) :
    Two wc ((wr.setCell ⟨C, k, none⟩ (.int .i64 a)).setCell ⟨C + 1, k, none⟩ u) C n f' g' := by
  obtain ⟨h1, h2, h3, h4⟩ := h
  refine ⟨((h1.set k _).setOther (by simp) _).congr (fun j hj => ?_), ((h2.setOther (by simp) _).set k _).congr (fun j hj => (hg j hj).symm), (h3.setCell (Nat.le_refl _) _).setCell (Nat.le_succ _) _, by simpa [World.setCell] using h4⟩
  rw [hf j hj]
  split <;> rfl

/-- the same with a new block laid between the two stores, which holds o -/
def Two3 (wc wr : World) (C n G : Nat) (o : Obj) (f : Nat → Int) (g : Nat → Value) : Prop := Two wc wr C n f g ∧ wr.heap[G]? = some o ∧ C + 2 ≤ G

theorem Two.lay {wc wr : World} {C n : Nat} {f f' : Nat → Int} {g g' : Nat → Value} (h : Two wc wr C n f g) (k : Nat) (a : Int) (u : Value) (o : Obj) (hf : ∀ j, j < n + 1 → f' j = if j = k then a else f j) (hg : ∀ j, j < n + 1 → g' j = if j = k then u else g j) :
    Two3 wc (((wr.setCell ⟨C, k, none⟩ (.int .i64 a)).alloc o).setCell ⟨C + 1, k, none⟩ u) C n wr.heap.size o f' g' := by
  obtain ⟨h1, h2, h3, h4⟩ := h
  have e1 : ((wr.setCell ⟨C, k, none⟩ (.int .i64 a))).heap.size = wr.heap.size := by simp [World.setCell]
  refine ⟨⟨(((h1.set k _).alloc o).setOther (by simp) _).congr (fun j hj => ?_), (((h2.setOther (by simp) _).alloc o).set k _).congr (fun j hj => (hg j hj).symm), ((h3.setCell (Nat.le_refl _) _).alloc (by rw [e1]; omega) o).setCell (Nat.le_succ _) _, ?_⟩, ?_, h4⟩
  · show _ = _
    rw [hf j hj]
    split <;> rfl
  · have : (((wr.setCell ⟨C, k, none⟩ (.int .i64 a)).alloc o).setCell ⟨C + 1, k, none⟩ u).heap.size = wr.heap.size + 1 := by simp [World.setCell, World.alloc]
    omega
  · rw [Below.heap_setCell _ _ _ _ (by show wr.heap.size ≠ C + 1; omega), ← e1]
    exact heap_alloc_new _ _

theorem Two3.step {wc wr : World} {C n G : Nat} {o : Obj} {f f' : Nat → Int} {g g' : Nat → Value} (h : Two3 wc wr C n G o f g) (k : Nat) (a : Int) (u : Value) (hf : ∀ j, j < n + 1 → f' j = if j = k then a else f j) (hg : ∀ j, j < n + 1 → g' j = if j = k then u else g j) :
    Two3 wc ((wr.setCell ⟨C, k, none⟩ (.int .i64 a)).setCell ⟨C + 1, k, none⟩ u) C n G o f' g' := by
  refine ⟨h.1.step k a u hf hg, ?_, h.2.2⟩
  have := h.2.2
  rw [Below.heap_setCell _ _ _ _ (by show G ≠ C + 1; omega), Below.heap_setCell _ _ _ _ (by show G ≠ C; omega)]
  exact h.2.1

/-- the first k of f, then d -/
def pre {α : Type} (k : Nat) (f : Nat → α) (d : α) (j : Nat) : α := if j < k then f j else d
/-- the first i of f, then a, then those of f before place k, then d -/
def mid {α : Type} (i k : Nat) (f : Nat → α) (a d : α) (j : Nat) : α := if j < i then f j else if j = i then a else if j ≤ k then f (j - 1) else d

theorem pre_step {α : Type} (k : Nat) (f : Nat → α) (d : α) (j : Nat) : pre (k + 1) f d j = if j = k then f k else pre k f d j := by
  unfold pre
  by_cases h1 : j = k
  · subst h1
    simp
  · by_cases h2 : j < k
    · have : j < k + 1 := by omega
      simp [h1, h2, this]
    · have : ¬ j < k + 1 := by omega
      simp [h1, h2, this]
theorem mid_start {α : Type} (i : Nat) (f : Nat → α) (a d : α) (j : Nat) : mid i i f a d j = if j = i then a else pre i f d j := by
  unfold mid pre
  by_cases h1 : j < i
  · have : j ≠ i := by omega
    simp [h1, this]
  · by_cases h2 : j = i
    · simp [h2]
    · have : ¬ j ≤ i := by omega
      simp [h1, h2, this]
theorem mid_step {α : Type} (i k : Nat) (h : i ≤ k) (f : Nat → α) (a d : α) (j : Nat) : mid i (k + 1) f a d j = if j = k + 1 then f k else mid i k f a d j := by
  unfold mid
  by_cases h1 : j = k + 1
  · subst h1
    have e1 : ¬ k + 1 < i := by omega
    have e2 : ¬ k + 1 = i := by omega
    simp [e1, e2]
  · by_cases h2 : j ≤ k
    · have : j ≤ k + 1 := by omega
      simp [h1, h2, this]
    · have : ¬ j ≤ k + 1 := by omega
      simp [h1, h2, this]
theorem mid_end {α : Type} (i n : Nat) (f : Nat → α) (a d : α) (j : Nat) (h : j < n + 1) : mid i n f a d j = ins i f a j := by
  unfold mid ins
  have : j ≤ n := by omega
  simp [this]

theorem ins_mem {α : Type} {P : α → Prop} {i n : Nat} {f : Nat → α} {a : α} (hf : ∀ j, j < n → P (f j)) (ha : P a) (hi : i ≤ n) {j : Nat} (hj : j < n + 1) : P (ins i f a j) := by
  unfold ins
  split
  · exact hf j (by omega)
  · split
    · exact ha
    · exact hf (j - 1) (by omega)

theorem IsInts.wf {w : World} {v : Value} {n : Nat} {z : Nat → Int} (h : IsInts w v n z) : ∀ j, j < n → (Lit.int .i64 (z j)).wf = true := fun j hj => by
  obtain ⟨a, cap, rfl, h⟩ := h
  obtain ⟨b, off, rfl, _, hc⟩ := h (by omega)
  exact (hc j hj).2

theorem Two3.ints {wc wr : World} {C n G k : Nat} {o : Obj} {z : Nat → Int} {c : Int} {g : Nat → Value} (h : Two3 wc wr C n G o (mid k n z c 0) g) (hk : k ≤ n) (hz : ∀ j, j < n → (Lit.int .i64 (z j)).wf = true) (hwc : (Lit.int .i64 c).wf = true) :
    IsInts wr (.slice (some ⟨C, 0, none⟩) (n + 1) (n + 1)) (n + 1) (ins k z c) := by
  obtain ⟨⟨h1, _, _, h4⟩, _⟩ := h
  refine ⟨_, _, rfl, fun _ => ⟨C, 0, rfl, by omega, fun i hi => ⟨?_, ins_mem (P := fun y => (Lit.int .i64 y).wf = true) hz hwc hk hi⟩⟩⟩
  rw [Nat.zero_add, h1.cell hi, mid_end k n z c 0 i hi]

theorem Two3.rows {wc wr : World} {C n G k : Nat} {x : Int} {f : Nat → Int} {A : Nat → Option Addr} {L Cp : Nat → Nat} {p q : Nat → Nat → Int} {d : Value} (h : Two3 wc wr C n G (.cells #[.int .i64 x, .int .i64 x] 34) f (mid k n (rowV A L Cp) (.slice (some ⟨G, 0, none⟩) 1 1) d)) (hk : k ≤ n)
    (hC : wc.heap.size = C) (hr : ∀ j, j < n → IsRuns wc (.slice (A j) (L j) (Cp j)) (L j) (p j) (q j)) :
    IsRows wr (.slice (some ⟨C + 1, 0, none⟩) (n + 1) (n + 1)) (n + 1) (ins k L 1) (ins k p (fun _ => x)) (ins k q (fun _ => x)) := by
  obtain ⟨⟨_, h2, h3, h4⟩, hG, hCG⟩ := h
  subst hC
  refine ⟨_, _, rfl, fun _ => ⟨wc.heap.size + 1, 0, rfl, by omega, fun i hi => ⟨_, by rw [Nat.zero_add]; exact h2.cell hi, ?_⟩⟩⟩
  rw [mid_end k n _ _ d i hi]
  unfold ins
  split
  · exact (hr i (by omega)).below h3
  · split
    · refine ⟨_, _, rfl, fun _ => ⟨G, 0, rfl, (Array.getElem?_eq_some_iff.1 hG).1, fun i hi => ?_⟩⟩
      have : i = 0 := by omega
      subst this
      simp [World.cell?, hG]
    · exact (hr (i - 1) (by omega)).below h3

theorem Try.info3 : (Try.prog.info? 3).map (fun i => (i.zero, i.size, i.bytes)) = some (some (.int .i64 0), 1, 8) := by kernel_rfl
theorem Try.info33 : (Try.prog.info? 33).map (fun i => (i.zero, i.size, i.bytes)) = some (some (.slice none 0 0), 1, 24) := by kernel_rfl
theorem Try.size3 : (Try.prog.info? 3).map (·.size) = some 1 := by kernel_rfl

/-- 'zzc := make([]int, len(cs)); copy(zzc, cs)': the copy, in whatever world it leaves -/
theorem copy_ints (w : World) (a : Addr) (n c0 : Nat) (z : Nat → Int) (h : IsInts w (.slice (some a) n c0) n z) :
    ∃ W2, (Builtin.copy_ #[22, 22] 3 #[.slice (some ⟨w.heap.size, 0, none⟩) n n, .slice (some a) n c0]).run Try.prog (w.alloc (.cells (madeCells #[.int .i64 0] n) 3)) = .ok (.int .i64 n) W2 ∧
      IsInts W2 (.slice (some ⟨w.heap.size, 0, none⟩) n n) n z ∧ Below w.heap.size w W2 := by
  have hB : Below w.heap.size w (w.alloc (.cells (madeCells #[.int .i64 0] n) 3)) := (Below.refl _ _).alloc (Nat.le_refl _) _
  obtain ⟨a', c', e, h⟩ := h
  simp only [Value.slice.injEq, true_and] at e
  obtain ⟨rfl, rfl⟩ := e
  by_cases hn : n = 0
  · subst hn
    exact ⟨_, run_copy_none (P := Try.prog) _ 22 22 3 3 _ _ 0 0 0 c0 Try.underlying22 Try.size3 rfl, ⟨_, _, rfl, fun h => absurd h (Nat.lt_irrefl _)⟩, hB⟩
  · obtain ⟨b, off, e, hb, hc⟩ := h (by omega)
    cases e
    have hlen : ((List.range n).map fun i => Value.int .i64 (z i)).length = n := by simp
    have hrow : (w.alloc (.cells (madeCells #[.int .i64 0] n) 3)).heap[w.heap.size]? = some (.cells (madeCells #[.int .i64 0] n) 3 (0, 0)) := heap_alloc_new w _
    have hr := run_copy_row (P := Try.prog) (w.alloc (.cells (madeCells #[.int .i64 0] n) 3)) 22 22 3 3 w.heap.size 0 n n ⟨b, off, none⟩ n c0 (madeCells #[.int .i64 0] n) 3 ((List.range n).map fun i => Value.int .i64 (z i))
      Try.underlying22 Try.size3 hrow (by simp) (fun j v hj => by
        have hjn : j < n := by
          have := (List.getElem?_eq_some_iff.1 hj).1
          simpa using this
        have hv : v = .int .i64 (z j) := by simpa [hjn] using hj.symm
        rw [hv, WideShapes.add_plain]
        exact (World.cell?_alloc_lt _ _ _ hb).trans (hc j hjn).1) (by rw [size_madeCells]; simp) (by simp [Value.oneCell'])
    rw [hlen] at hr
    refine ⟨_, hr, ⟨_, _, rfl, fun _ => ⟨w.heap.size, 0, rfl, by simp [World.setRow], fun i hi => ⟨?_, (hc i hi).2⟩⟩⟩, below_setRow hB (Nat.le_refl _) _⟩
    rw [Nat.zero_add, cell_setRow_same _ _ _ _ _ _ _ hrow]
    have e2 : (madeCells #[Value.int .i64 0] n).toList.drop n = [] := List.drop_eq_nil_of_le (by rw [Array.length_toList, size_madeCells]; exact Nat.le_refl _)
    simp [hi, e2]

end Go.Proofs.Qxb6619738a
