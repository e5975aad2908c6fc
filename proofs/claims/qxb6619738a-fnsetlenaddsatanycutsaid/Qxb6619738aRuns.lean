/-
  A MAP FROM INTS TO SLICES OF PAIRS THAT THE CALL ITSELF HAS MADE, TOLD BY ONE NUMBER: the sum over all entries of (last - first + 1). What is read of an element is that sum alone, as an integer.
-/
import Derived.Test.Qxb6619738aBase
import Derived.Maps.OwnOps
import Derived.Maps.AppendAt
import Derived.Maps.RangeWalk
namespace Go.Proofs.Qxb6619738a
open Go.RowKit Go.ChangeMaps Go.MapKept Go.Maps
open Go.WideElems (Fit rd rg pl rd_val rd_key rg_of)

/-! ### plain: sums over a map's reading -/
def litOf : DataW Unit → Int
  | .lit (.int _ n) => n
  | _ => 0
def tot : List (Lit × DataW Unit) → Int
  | [] => 0
  | p :: l => litOf p.2 + tot l

theorem tot_perm {l l' : List (Lit × DataW Unit)} (h : l.Perm l') : tot l = tot l' := by
  induction h with
  | nil => rfl
  | cons x _ ih => show _ + _ = _ + _; rw [ih]
  | swap x y l => show _ + (_ + _) = _ + (_ + _); omega
  | trans _ _ h1 h2 => exact h1.trans h2

def totLeft (left : Lit → Bool) (l : List (Lit × DataW Unit)) : Int := tot (l.filter fun p => left p.1)

theorem totLeft_none (left : Lit → Bool) (l : List (Lit × DataW Unit)) (h : ∀ k, left k = false) : totLeft left l = 0 := by
  unfold totLeft
  rw [List.filter_eq_nil_iff.2 (fun p _ => by simp [h])]
  rfl
theorem totLeft_all (left : Lit → Bool) (l : List (Lit × DataW Unit)) (h : ∀ p ∈ l, left p.1 = true) : totLeft left l = tot l := by
  unfold totLeft
  rw [List.filter_eq_self.2 h]

theorem totLeft_cons (left : Lit → Bool) (p : Lit × DataW Unit) (l : List (Lit × DataW Unit)) : totLeft left (p :: l) = (if left p.1 then litOf p.2 else 0) + totLeft left l := by
  unfold totLeft
  rw [List.filter_cons]
  cases left p.1
  · simp
  · rfl

theorem totLeft_strike (left : Lit → Bool) : ∀ (l : List (Lit × DataW Unit)), l.Pairwise (fun p q => p.1 ≠ q.1) → ∀ p ∈ l, WideAt.IsKeyLit p.1 → left p.1 = true →
    totLeft (fun z => left z && !z.sameKey p.1) l = totLeft left l - litOf p.2
  | [], _, p, hp, _, _ => by simp at hp
  | x :: r, hd, p, hp, hk, hl => by
    obtain ⟨h1, h2⟩ := List.pairwise_cons.1 hd
    rw [totLeft_cons, totLeft_cons]
    by_cases e : x.1 = p.1
    · have hr : totLeft (fun z => left z && !z.sameKey p.1) r = totLeft left r := by
        unfold totLeft
        congr 1
        refine List.filter_congr (fun y hy => ?_)
        have : y.1.sameKey p.1 = false := by
          cases hs : y.1.sameKey p.1
          · rfl
          · exact absurd (e.trans (WideAt.sameKey_eq hs).symm) (h1 y hy)
        simp [this]
      have hxp : litOf x.2 = litOf p.2 := by
        rcases List.mem_cons.1 hp with h | h
        · rw [h]
        · exact absurd e (h1 p h)
      rw [hr, e, hl, WideAt.sameKey_self hk]
      simp only [Bool.not_true, Bool.and_false, Bool.false_eq_true, if_false, if_true]
      omega
    · have hx : x.1.sameKey p.1 = false := by
        cases hs : x.1.sameKey p.1
        · rfl
        · exact absurd (WideAt.sameKey_eq hs) e
      have hpr : p ∈ r := by
        rcases List.mem_cons.1 hp with h | h
        · exact absurd (by rw [h]) e
        · exact h
      rw [totLeft_strike left r h2 p hpr hk hl, hx]
      simp only [Bool.not_false, Bool.and_true]
      omega

theorem tot_insert (x : Lit × DataW Unit) (l : List (Lit × DataW Unit)) : tot (DataW.insert x l) = litOf x.2 + tot l := by
  rw [tot_perm (WideShapes.insert_perm x l)]
  rfl

/-! ### pairs of cells -/
def pairSum : List Value → Option Int
  | [] => some 0
  | .int .i64 a :: .int .i64 b :: r => (pairSum r).map fun s => (b - a + 1) + s
  | _ => none

theorem pairSum_fn (n : Nat) : ∀ (xs : List Value) (s : Int), xs.length = n * 2 → pairSum xs = some s →
    ∃ p q : Nat → Int, (∀ i, i < n → xs[i * 2]? = some (.int .i64 (p i)) ∧ xs[i * 2 + 1]? = some (.int .i64 (q i))) ∧ s = rowSum p q n := by
  induction n with
  | zero =>
    intro xs s hl hs
    have : xs = [] := List.eq_nil_of_length_eq_zero (by simpa using hl)
    subst this
    simp [pairSum] at hs
    exact ⟨fun _ => 0, fun _ => 0, fun i hi => absurd hi (Nat.not_lt_zero _), hs.symm⟩
  | succ n ih =>
    intro xs s hl hs
    match xs, hl, hs with
    | .int .i64 a :: .int .i64 b :: r, hl, hs =>
      simp only [pairSum, Option.map_eq_some_iff] at hs
      obtain ⟨s', h1, rfl⟩ := hs
      obtain ⟨p, q, hpq, hs'⟩ := ih r s' (by simp at hl; omega) h1
      refine ⟨fun i => if i = 0 then a else p (i - 1), fun i => if i = 0 then b else q (i - 1), fun i hi => ?_, ?_⟩
      · match i, hi with
        | 0, _ => simp
        | i + 1, hi =>
          have := hpq i (by omega)
          have e1 : (i + 1) * 2 = i * 2 + 2 := by omega
          simp only [e1, List.getElem?_cons_succ, Nat.add_one_ne_zero, if_false, Nat.add_sub_cancel]
          exact this
      · have e : n + 1 = 1 + n := by omega
        unfold rowSum
        rw [e, sumZ_add, hs']
        have e2 : sumZ (fun k => (if k = 0 then b else q (k - 1)) - (if k = 0 then a else p (k - 1)) + 1) 1 = b - a + 1 := by simp [sumZ]
        rw [e2]
        congr 1
        unfold rowSum
        exact sumZ_congr n (fun i _ => by simp)

theorem pairSum_snoc (n : Nat) : ∀ (xs : List Value) (s a b : Int), xs.length = n * 2 → pairSum xs = some s → pairSum (xs ++ [.int .i64 a, .int .i64 b]) = some (s + (b - a + 1)) := by
  induction n with
  | zero =>
    intro xs s a b hl hs
    have : xs = [] := List.eq_nil_of_length_eq_zero (by simpa using hl)
    subst this
    simp [pairSum] at hs ⊢
    omega
  | succ n ih =>
    intro xs s a b hl hs
    match xs, hl, hs with
    | .int .i64 a' :: .int .i64 b' :: r, hl, hs =>
      simp only [pairSum, Option.map_eq_some_iff] at hs
      obtain ⟨s', h1, rfl⟩ := hs
      have := ih r s' a b (by simp at hl; omega) h1
      simp only [List.cons_append, pairSum, this, Option.map_some, Option.some.injEq]
      omega

/-- v is nil or owns a row of n pairs from block 'base' on, whose sum is s. -/
def OwnRuns (w : World) (base : Nat) (v : Value) (n : Nat) (s : Int) : Prop := ∃ xs, w.ownsRow base 37 2 v n xs ∧ pairSum xs = some s

theorem OwnRuns.nil (w : World) (base : Nat) : OwnRuns w base (.slice none 0 0) 0 0 := ⟨[], World.ownsRow_nil _ _ _ _, rfl⟩

theorem OwnRuns.kept {w w' : World} {base n : Nat} {v : Value} {s : Int} {row : Option Nat} (h : OwnRuns w base v n s) (hg : w.grownBy w' row) (hne : v.ownBlock = none ∨ v.ownBlock ≠ row) : OwnRuns w' base v n s := by
  obtain ⟨xs, h1, h2⟩ := h
  exact ⟨xs, h1.kept hg hne, h2⟩

theorem OwnRuns.unique {w : World} {base n n' : Nat} {v : Value} {s s' : Int} (h : OwnRuns w base v n s) (h' : OwnRuns w base v n' s') : n = n' ∧ s = s' := by
  obtain ⟨xs, ⟨hl, h2⟩, h3⟩ := h
  obtain ⟨xs', ⟨hl', h2'⟩, h3'⟩ := h'
  rcases h2 with ⟨rfl, rfl⟩ | ⟨g, cap, cur, rfl, _, hh, _, _, _, ht⟩
  · rcases h2' with ⟨_, rfl⟩ | ⟨g, cap, cur, hv, _⟩
    · have e1 : xs = [] := List.eq_nil_of_length_eq_zero (by simpa using hl)
      have e2 : xs' = [] := List.eq_nil_of_length_eq_zero (by simpa using hl')
      subst e1
      subst e2
      rw [h3] at h3'
      exact ⟨rfl, Option.some.inj h3'⟩
    · cases hv
  · rcases h2' with ⟨hv, _⟩ | ⟨g', cap', cur', hv, _, hh', _, _, _, ht'⟩
    · cases hv
    · simp only [Value.slice.injEq, Option.some.injEq, Addr.mk.injEq] at hv
      obtain ⟨⟨rfl, _⟩, rfl, _⟩ := hv
      rw [hh] at hh'
      simp only [Option.some.injEq, Obj.cells.injEq] at hh'
      obtain ⟨rfl, _⟩ := hh'
      rw [← ht, ht', h3'] at h3
      exact ⟨rfl, (Option.some.inj h3).symm⟩

theorem OwnRuns.lt {w : World} {base n : Nat} {v : Value} {s : Int} (h : OwnRuns w base v n s) : ∀ k, v.ownBlock = some k → base ≤ k ∧ k < w.heap.size := by
  obtain ⟨xs, h1, _⟩ := h
  exact h1.lt

/-- What the walk of a range over such a slice wants. -/
theorem OwnRuns.read {w : World} {base n : Nat} {v : Value} {s : Int} (h : OwnRuns w base v n s) : ∃ p q, IsRuns w v n p q ∧ s = rowSum p q n := by
  obtain ⟨xs, h1, h2⟩ := h
  obtain ⟨p, q, hpq, hs⟩ := pairSum_fn n xs s h1.1 h2
  refine ⟨p, q, ?_, hs⟩
  have hlt := h1.lt
  have h1' := h1
  rcases h1.2 with ⟨rfl, rfl⟩ | ⟨g, cap, cur, rfl, _⟩
  · exact ⟨none, 0, rfl, fun h => absurd h (Nat.not_lt_zero _)⟩
  · refine ⟨_, cap, rfl, fun _ => ⟨g, 0, rfl, (hlt g rfl).2, fun i hi => ?_⟩⟩
    rw [Nat.zero_add, h1'.cellAt _ (by omega), h1'.cellAt _ (by omega)]
    exact hpq i hi

/-- BLOCK b IS A MAP OF AT MOST N ENTRIES; each element is nil or owns a row from 'base' on, of at most N pairs; no two keys' slices lie in one row; ALL THEIR PAIRS SUM TO T. -/
def Grp (w : World) (base b N : Nat) (T : Int) : Prop :=
  ∃ (R : Value → Option (DataW Unit × List MemPlace)) (es : Array MapEntry) (clock : Nat), w.heap[b]? = some (.map es clock) ∧ Fit Try.prog 3 R es clock ∧ es.size ≤ N ∧ b < base ∧
    (∀ x ∈ es.toList, ∃ n s, OwnRuns w base x.val n s ∧ n ≤ N ∧ R x.val = some (.lit (.int .i64 s), [])) ∧
    (∀ x ∈ es.toList, ∀ y ∈ es.toList, x.key ≠ y.key → x.val.ownBlock = none ∨ x.val.ownBlock ≠ y.val.ownBlock) ∧
    T = tot (es.toList.map (rg Try.prog 3 R))

theorem law3 : Keyed Try.prog 3 := int_keyed Try.underlying3
theorem zero35 (w : World) : (zeroValue 35).run Try.prog w = .ok (.slice none 0 0) w := by kernel_rfl

theorem Grp.made (w : World) : Grp (w.alloc (.map #[] 0)) (w.heap.size + 1) w.heap.size 0 0 :=
  ⟨fun _ => none, #[], 0, (MapKept.heap_alloc w _).1, ⟨by simp, stamped_empty 0, by simp⟩, Nat.le_refl _, Nat.lt_succ_self _, by simp, by simp, rfl⟩

theorem Grp.lt {w : World} {base b N : Nat} {T : Int} (h : Grp w base b N T) : b < w.heap.size := by
  obtain ⟨R, es, clock, hb, _⟩ := h
  exact (Array.getElem?_eq_some_iff.1 hb).1

theorem Grp.mono {w : World} {base b N N' : Nat} {T : Int} (h : Grp w base b N T) (hN : N ≤ N') : Grp w base b N' T := by
  obtain ⟨R, es, clock, hb, F, hs, hbb, hr, hap, hT⟩ := h
  refine ⟨R, es, clock, hb, F, Nat.le_trans hs hN, hbb, fun x hx => ?_, hap, hT⟩
  obtain ⟨n, s, h1, h2, h3⟩ := hr x hx
  exact ⟨n, s, h1, Nat.le_trans h2 hN, h3⟩

/-- The map stays what it is while a block below 'base' that is not b is written, and new ones are made. -/
theorem Grp.kept {w w' : World} {base b N : Nat} {T : Int} {row : Option Nat} (h : Grp w base b N T) (hg : w.grownBy w' row) (hrow : ∀ j, row = some j → j < base ∧ j ≠ b) : Grp w' base b N T := by
  have hlt := h.lt
  obtain ⟨R, es, clock, hb, F, hs, hbb, hr, hap, hT⟩ := h
  refine ⟨R, es, clock, (hg.block b hlt (fun e => (hrow b e.symm).2 rfl)).trans hb, F, hs, hbb, fun x hx => ?_, hap, hT⟩
  obtain ⟨n, s, h1, h2, h3⟩ := hr x hx
  refine ⟨n, s, h1.kept hg ?_, h2, h3⟩
  cases hx' : x.val.ownBlock with
  | none => exact Or.inl rfl
  | some g =>
    refine Or.inr (fun e => ?_)
    have := (h1.lt g hx').1
    have := (hrow g e.symm).1
    omega

theorem grownBy_setCell (w : World) (a : Addr) (v : Value) : w.grownBy (w.setCell a v) (some a.block) :=
  ⟨rfl, rfl, rfl, by simp [World.setCell], fun k _ hk => Below.heap_setCell _ _ _ _ (fun e => hk (by rw [e]))⟩

/-- THE WAY BACK: whatever is done from w on to v's own row and to new blocks alone, a store at the key of a slice that lies in v's row or in a new block leaves a Grp, the sum turned by what the slice's own has. -/
def GrpBack (w : World) (base b N : Nat) (T : Int) (c : Int) (v : Value) (s : Int) : Prop :=
  ∀ (w1 : World) (v' : Value) (n' : Nat) (s' : Int), w.grownBy w1 v.ownBlock → OwnRuns w1 base v' n' s' → n' ≤ N + 1 → (v'.ownBlock = v.ownBlock ∨ ∃ g, v'.ownBlock = some g ∧ w.heap.size ≤ g) →
    ∃ w2, (Instr.mapUpdate 26 (.map (some b)) (.int .i64 c) v').run Try.prog w1 = .ok () w2 ∧ Grp w2 base b (N + 1) (T - s + s') ∧ w1.grownBy w2 (some b)

theorem grp_back {w : World} {base b N : Nat} {R : Value → Option (DataW Unit × List MemPlace)} {es : Array MapEntry} {clock : Nat} {v : Value} {c s : Int} (hb : w.heap[b]? = some (.map es clock)) (F : Fit Try.prog 3 R es clock) (hs : es.size ≤ N) (hN : N < maxLen) (hbb : b < base)
    (hr : ∀ x ∈ es.toList, ∃ n s, OwnRuns w base x.val n s ∧ n ≤ N ∧ R x.val = some (.lit (.int .i64 s), []))
    (hap : ∀ x ∈ es.toList, ∀ y ∈ es.toList, x.key ≠ y.key → x.val.ownBlock = none ∨ x.val.ownBlock ≠ y.val.ownBlock)
    (hwc : (Lit.int .i64 c).wf = true) (hv : ∀ x ∈ es.toList, x.key ≠ .int .i64 c → x.val.ownBlock = none ∨ x.val.ownBlock ≠ v.ownBlock) (hvb : v.ownBlock ≠ some b)
    (hT : tot ((es.toList.map (rg Try.prog 3 R)).filter (notKey (.int .i64 c))) = tot (es.toList.map (rg Try.prog 3 R)) - s) :
    GrpBack w base b N (tot (es.toList.map (rg Try.prog 3 R))) c v s := by
  intro w1 v' n' s' hg hown' hl' hloc
  classical
  have hkey := keyOf_int_mk (P := Try.prog) Try.underlying3 hwc
  have hblt : b < w.heap.size := (Array.getElem?_eq_some_iff.1 hb).1
  have hb1 : w1.heap[b]? = some (.map es clock) := (hg.block b hblt (fun e1 => hvb e1.symm)).trans hb
  -- the new reader
  obtain ⟨R', hR'⟩ : ∃ R' : Value → Option (DataW Unit × List MemPlace), ∀ u n s, OwnRuns w1 base u n s → R' u = some (.lit (.int .i64 s), []) := by
    refine ⟨fun u => if h : ∃ s, ∃ n, OwnRuns w1 base u n s then some (.lit (.int .i64 (Classical.choose h)), []) else none, fun u n s ho => ?_⟩
    have hex : ∃ s, ∃ n, OwnRuns w1 base u n s := ⟨s, n, ho⟩
    obtain ⟨m, hm⟩ := Classical.choose_spec hex
    simp only [dif_pos hex, (hm.unique ho).2]
  have hs1 : ∀ x ∈ es.toList, x.key ≠ .int .i64 c → ∀ z, R x.val = some z → R' x.val = some z := by
    intro x hx hne z hz
    obtain ⟨n, s0, ho, _, h3⟩ := hr x hx
    rw [h3] at hz
    cases hz
    exact hR' _ _ _ (ho.kept hg (hv x hx hne))
  obtain ⟨es', clock', hrun, F', hput, _, _, hwho⟩ := Maps.fit_store (R' := R') law3 (Try.underlying26) hb1 F (Nat.lt_of_le_of_lt hs hN) hs1 hkey (hR' v' n' s' hown')
  have hg2 : w1.grownBy (setBlock w1 b (.map es' clock')) (some b) := ⟨rfl, rfl, rfl, by simp [setBlock], fun i _ hi => heap_setBlock_other hb1 _ (fun e1 => hi (by rw [e1]))⟩
  have own_ne : ∀ {u : Value} {n : Nat} {s : Int}, OwnRuns w1 base u n s → u.ownBlock = none ∨ u.ownBlock ≠ some b := fun {u n s} ho => by
    cases hu : u.ownBlock with
    | none => exact Or.inl rfl
    | some g =>
      refine Or.inr (fun e1 => ?_)
      have := (ho.lt g hu).1
      cases e1
      omega
  have old_new : ∀ x ∈ es.toList, x.key ≠ .int .i64 c → x.val.ownBlock = none ∨ x.val.ownBlock ≠ v'.ownBlock := by
    intro x hx hne
    rcases hloc with h1 | ⟨g, h1, h2⟩
    · rw [h1]
      exact hv x hx hne
    · cases hx' : x.val.ownBlock with
      | none => exact Or.inl rfl
      | some gx =>
        obtain ⟨n, s0, ho, _⟩ := hr x hx
        have := (ho.lt gx hx').2
        refine Or.inr (fun e1 => ?_)
        rw [h1] at e1
        cases e1
        omega
  refine ⟨_, hrun, ⟨R', es', clock', heap_setBlock_same hb1 _, F', ?_, hbb, ?_, ?_, ?_⟩, hg2⟩
  · have e1 : es'.size = ((es'.toList.map (rg Try.prog 3 R')).foldr DataW.insert []).length := by rw [length_sorted]; simp
    rw [e1, hput]
    unfold putKey
    rw [length_insert]
    have e2 := List.length_filter_le (notKey (.int .i64 c)) ((es.toList.map (rg Try.prog 3 R)).foldr DataW.insert [])
    rw [length_sorted] at e2
    simp at e2
    omega
  · intro x hx
    rcases hwho x hx with ⟨hx0, hne⟩ | ⟨_, hval⟩
    · obtain ⟨n, s0, ho, h2, _⟩ := hr x hx0
      have ho1 := ho.kept hg (hv x hx0 hne)
      exact ⟨n, s0, ho1.kept hg2 (own_ne ho1), by omega, hR' _ _ _ ho1⟩
    · rw [hval]
      exact ⟨n', s', hown'.kept hg2 (own_ne hown'), hl', hR' _ _ _ hown'⟩
  · intro x hx y hy hne
    rcases hwho x hx with ⟨hx0, hxk⟩ | ⟨hxk, hxv⟩ <;> rcases hwho y hy with ⟨hy0, hyk⟩ | ⟨hyk, hyv⟩
    · exact hap x hx0 y hy0 hne
    · rw [hyv]
      exact old_new x hx0 hxk
    · rw [hxv]
      cases hv' : v'.ownBlock with
      | none => exact Or.inl rfl
      | some g =>
        refine Or.inr (fun e1 => ?_)
        rcases old_new y hy0 hyk with h | h
        · rw [h] at e1
          cases e1
        · exact h (by rw [hv', e1])
    · exact absurd (hxk.trans hyk.symm) hne
  · have e1 : tot (es'.toList.map (rg Try.prog 3 R')) = tot ((es'.toList.map (rg Try.prog 3 R')).foldr DataW.insert []) := (tot_perm (WideShapes.sorted_perm _)).symm
    rw [e1, hput]
    unfold putKey
    rw [tot_insert, tot_perm ((WideShapes.sorted_perm (es.toList.map (rg Try.prog 3 R))).filter (notKey (.int .i64 c))), hT]
    show _ = s' + _
    omega

/-- 'm[c]': the value, what it owns, AND THE WAY BACK. The look-up answers so in every world in which block b is as it is here. -/
theorem Grp.look {w : World} {base b N : Nat} {T : Int} (h : Grp w base b N T) (hN : N < maxLen) {c : Int} (hwc : (Lit.int .i64 c).wf = true) :
    ∃ v n s, (∀ x : World, x.heap[b]? = w.heap[b]? → (Instr.lookup 26 (.map (some b)) (.int .i64 c) false).run Try.prog x = .ok v x) ∧ OwnRuns w base v n s ∧ n ≤ N ∧ GrpBack w base b N T c v s := by
  obtain ⟨R, es, clock, hb, F, hs, hbb, hr, hap, rfl⟩ := h
  have hkey := keyOf_int_mk (P := Try.prog) Try.underlying3 hwc
  have hst := (stamped_iff es clock).1 F.stamped
  rcases Maps.fit_look false law3 Try.underlying26 (zero35 w) hb F hkey with ⟨_, hnone, _⟩ | ⟨e0, y, hm0, h3, _, hR, _, _⟩
  · refine ⟨.slice none 0 0, 0, 0, fun x hx => ?_, OwnRuns.nil _ _, Nat.zero_le _, grp_back hb F hs hN hbb hr hap hwc (fun x _ _ => ?_) (by simp [Value.ownBlock]) ?_⟩
    · rcases Maps.fit_look false law3 Try.underlying26 (zero35 x) (hx.trans hb) F hkey with ⟨hrun, _⟩ | ⟨e1, _, hm1, h31, _⟩
      · exact hrun
      · exact absurd h31 (hnone e1 hm1)
    · cases x.val.ownBlock <;> simp [Value.ownBlock]
    · rw [Maps.filter_all law3 F hkey hnone]
      omega
  · obtain ⟨n, s, ho, hn, hRs⟩ := hr e0 hm0
    refine ⟨e0.val, n, s, fun x hx => ?_, ho, hn, grp_back hb F hs hN hbb hr hap hwc (fun x hx hne => hap x hx e0 hm0 (by rw [h3]; exact hne)) (fun e1 => ?_) ?_⟩
    · rcases Maps.fit_look false law3 Try.underlying26 (zero35 x) (hx.trans hb) F hkey with ⟨_, hnone, _⟩ | ⟨e1, _, hm1, h31, hrun, _⟩
      · exact absurd h3 (hnone e0 hm0)
      · rw [entry_eq_of_key hst.2.2 hm0 hm1 (h3.trans h31.symm)]
        exact hrun
    · have := (ho.lt b e1).1
      omega
    · obtain ⟨y0, hy0⟩ := F.reads e0 hm0
      obtain ⟨z, hz, hzd⟩ := rd_val hy0
      have hk0 := rd_key hy0
      rw [h3, hkey] at hk0
      have hp : rg Try.prog 3 R e0 ∈ es.toList.map (rg Try.prog 3 R) := List.mem_map.2 ⟨e0, hm0, rfl⟩
      have e1 : (rg Try.prog 3 R e0).1 = .int .i64 c := by rw [rg_of hy0]; exact (Option.some.inj hk0).symm
      have e2 : litOf (rg Try.prog 3 R e0).2 = s := by
        rw [rg_of hy0, hzd]
        rw [hz] at hRs
        cases hRs
        rfl
      have st := totLeft_strike (fun _ => true) (es.toList.map (rg Try.prog 3 R)) (Maps.fit_apart law3 F) _ hp (by rw [e1]; exact trivial) rfl
      rw [e1, e2, totLeft_all (fun _ => true) _ (fun _ _ => rfl)] at st
      rw [← st]
      rfl

end Go.Proofs.Qxb6619738a
