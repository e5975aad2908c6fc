/-
  FnNamesNumberOnAWellFormedTable: what the walk's last part leans on.
-/
import Derived.Test.Qxb6621657aClone
import Derived.Test.Qxb6621657aZz
import Derived.Maps.Own
import Derived.Deep.Onto
namespace Go.Proofs.Qxb6621657a
open Go.RowKit Go.Maps Go.ChangeMaps

/-- what is asked of the map that came in -/
def IsMapIn (w : World) (mv : Value) (cnt : Nat) (L : ByteArray → Int × Bool) : Prop :=
  (∀ ty, (Builtin.len_ #[25] ty #[mv]).run Try.prog w = .ok (.int .i64 cnt) w) ∧ ∀ s, s.size ≤ maxLen → (Instr.lookup 25 mv (.string s) true).run Try.prog w = .ok (.tuple #[.int .i32 (L s).1, .bool (L s).2]) w ∧ -2147483648 ≤ (L s).1 ∧ (L s).1 ≤ 2147483647

/-- the map that the law makes: it has just the names ms, each to its place -/
def MapMade (w1 w2 : World) (r : Option Nat) (ms : List ByteArray) : Prop :=
  Below w1.heap.size w1 w2 ∧ ((r = none ∧ ms = []) ∨ ∃ b D, r = some b ∧ w1.heap.size ≤ b ∧ w2.ownsMap Try.prog 9 (plainElem Try.prog 21) b ms.length D ∧ TD D ms)

theorem lst_succ (ss : Nat → ByteArray) (k : Nat) : lst ss (k + 1) = lst ss k ++ [ss k] := by simp [lst, List.range_succ]

theorem IsStrs.below {w w' : World} {a : Option Addr} {n : Nat} {ss : Nat → ByteArray} (h : IsStrs w a n ss) (hb : Below w.heap.size w w') : IsStrs w' a n ss := fun hn => by
  obtain ⟨b, off, e, hlt, hc⟩ := h hn
  exact ⟨b, off, e, Nat.lt_of_lt_of_le hlt hb.size, fun i hi => ⟨(hb.cell (p := ⟨b, off + i, none⟩) hlt).trans (hc i hi).1, (hc i hi).2⟩⟩

theorem owns_isStrs {w : World} {base n cap : Nat} {oa : Option Addr} {ss : Nat → ByteArray} (h : w.ownsRow base 9 1 (.slice oa n cap) n ((lst ss n).map Value.string)) (hsz : ∀ i, i < n → (ss i).size ≤ 1048576) : IsStrs w oa n ss := fun hn => by
  obtain ⟨rr, cp, esh, hrb, hrl⟩ := h.form hn
  rw [esh] at h
  simp only [Value.slice.injEq] at esh
  refine ⟨rr, 0, esh.1, hrl, fun i hi => ⟨?_, by have := hsz i hi; unfold maxLen; omega⟩⟩
  rw [show 0 + i = i by omega, h.cellAt i (by omega)]
  simp [lst_get, hi]

theorem lst_nodup {ss : Nat → ByteArray} {n : Nat} (h : ∀ k, k < n → ss k ∉ lst ss k) : ∀ k, k ≤ n → (lst ss k).Nodup
  | 0, _ => by simp [lst]
  | k + 1, hk => by
    rw [lst_succ, List.nodup_append]
    refine ⟨lst_nodup h k (by omega), by simp, fun x hx y hy e => ?_⟩
    simp at hy
    subst hy
    exact h k (by omega) (e ▸ hx)

theorem tbl_made {w1 w2 w3 : World} {r : Option Nat} {sa : Option Addr} {scap n : Nat} {ss : Nat → ByteArray} (hd : ∀ k, k < n → ss k ∉ lst ss k) (hsz : ∀ i, i < n → (ss i).size ≤ 1048576)
    (hM : MapMade w1 w2 r (lst ss n)) (ho : w3.ownsRow w2.heap.size 9 1 (.slice sa n scap) n ((lst ss n).map Value.string)) (hg : w2.grownBy w3 none) : Tbl w3 w1.heap.size (.map r) (.slice sa n scap) (lst ss n) := by
  obtain ⟨hb, hm⟩ := hM
  refine ⟨by rw [lst_len]; exact ho.mono hb.size, lst_nodup hd n (Nat.le_refl _), fun s hs => ?_, ?_⟩
  · simp only [lst, List.mem_map, List.mem_range] at hs
    obtain ⟨j, hj, rfl⟩ := hs
    have := hsz j hj
    unfold maxLen; omega
  · rcases hm with ⟨rfl, e⟩ | ⟨b, D, rfl, hbb, hown, hD⟩
    · exact Or.inl ⟨rfl, e⟩
    · exact Or.inr ⟨b, D, rfl, hbb, hown.kept hg (by simp), hD⟩

theorem below_made {w1 w2 w3 : World} {r : Option Nat} {ms : List ByteArray} (hM : MapMade w1 w2 r ms) (hg : w2.grownBy w3 none) : Below w1.heap.size w1 w3 :=
  hM.1.grown hg hM.1.size (fun j hj => by cases hj)

/-- what the search finds -/
def Hit (ss : Nat → ByteArray) (n : Nat) (name : ByteArray) (W : Nat) (f : Bool) : Prop := (f = true ∧ W < n ∧ ss W = name) ∨ (f = false ∧ W = n ∧ name ∉ lst ss n)

/-- the list that is to come out -/
def Outs (l : List ByteArray) (name : ByteArray) (W : Nat) (ms : List ByteArray) : Prop := ms[W]? = some name ∧ (ms = l ∨ (name ∉ l ∧ ms = l ++ [name]))

theorem Hit.outs {ss : Nat → ByteArray} {n : Nat} {name : ByteArray} {W : Nat} {f : Bool} (h : Hit ss n name W f) : ∃ ms, Outs (lst ss n) name W ms ∧ ms.length = n + (if f then 0 else 1) := by
  rcases h with ⟨rfl, hW, rfl⟩ | ⟨rfl, rfl, hno⟩
  · exact ⟨lst ss n, ⟨lst_get ss n W hW, Or.inl rfl⟩, by simp [lst_len]⟩
  · refine ⟨lst ss W ++ [name], ⟨?_, Or.inr ⟨hno, rfl⟩⟩, by simp [lst_len]⟩
    rw [List.getElem?_append_right (by rw [lst_len]; exact Nat.le_refl _), lst_len]
    simp

theorem nd_place {l : List ByteArray} (h : l.Nodup) {i j : Nat} {s : ByteArray} (hi : l[i]? = some s) (hj : l[j]? = some s) : i = j := by
  obtain ⟨hi1, hi2⟩ := List.getElem?_eq_some_iff.1 hi
  obtain ⟨hj1, hj2⟩ := List.getElem?_eq_some_iff.1 hj
  have hp := List.pairwise_iff_getElem.1 h
  rcases Nat.lt_trichotomy i j with hlt | he | hlt
  · exact absurd (hi2.trans hj2.symm) (hp i j hi1 hj1 hlt)
  · exact he
  · exact absurd (hj2.trans hi2.symm) (hp j i hj1 hi1 hlt)

theorem Outs.same {l ms ms' : List ByteArray} {name : ByteArray} {W i : Nat} (h : Outs l name W ms) (hi : ms'[i]? = some name) (hms : ms' = l ∨ (name ∉ l ∧ ms' = l ++ [name])) (hn : ms'.Nodup) : ms' = ms ∧ i = W := by
  obtain ⟨hW, h2⟩ := h
  have e : ms' = ms := by
    rcases hms with rfl | ⟨h3, rfl⟩
    · rcases h2 with rfl | ⟨hno, _⟩
      · rfl
      · exact absurd (List.mem_of_getElem? hi) hno
    · rcases h2 with rfl | ⟨_, rfl⟩
      · exact absurd (List.mem_of_getElem? hW) h3
      · rfl
  subst e
  exact ⟨rfl, nd_place hn hi hW⟩

theorem Outs.again {l ms : List ByteArray} {name : ByteArray} {W : Nat} (h : Outs l name W ms) : Outs ms name W ms := ⟨h.1, Or.inl rfl⟩

theorem Outs.old {ss : Nat → ByteArray} {n : Nat} {name : ByteArray} {W : Nat} {ms : List ByteArray} (h : Outs (lst ss n) name W ms) {i : Nat} (hi : i < n) : ms[i]? = some (ss i) := by
  rcases h.2 with rfl | ⟨_, rfl⟩
  · exact lst_get ss n i hi
  · rw [List.getElem?_append_left (by rw [lst_len]; exact hi)]
    exact lst_get ss n i hi

theorem Outs.lt {l ms : List ByteArray} {name : ByteArray} {W : Nat} (h : Outs l name W ms) : W < ms.length := (List.getElem?_eq_some_iff.1 h.1).1
theorem Outs.len {ss : Nat → ByteArray} {n : Nat} {name : ByteArray} {W : Nat} {ms : List ByteArray} (h : Outs (lst ss n) name W ms) : n ≤ ms.length ∧ ms.length ≤ n + 1 := by
  rcases h.2 with rfl | ⟨_, rfl⟩
  · rw [lst_len]; omega
  · simp [lst_len]

/-- a cell of the table's slice -/
theorem Tbl.cell {w : World} {base : Nat} {mv : Value} {sa : Option Addr} {scap : Nat} {ms : List ByteArray} (h : Tbl w base mv (.slice sa ms.length scap) ms) (h0 : 0 < ms.length) : ∃ rr, sa = some ⟨rr, 0, none⟩ ∧ ∀ (i : Nat) (s : ByteArray), ms[i]? = some s → w.cell? ⟨rr, i, none⟩ = some (.string s) := by
  obtain ⟨rr, cp, esh, hrb, hrl⟩ := h.1.form h0
  have h1 := h.1
  rw [esh] at h1
  simp only [Value.slice.injEq] at esh
  refine ⟨rr, esh.1, fun i s hi => ?_⟩
  rw [h1.cellAt i (by have := (List.getElem?_eq_some_iff.1 hi).1; omega)]
  simp [hi]

theorem zz_anyn (base : Nat) (r : Option Nat) (sa : Option Addr) (scap n : Nat) (ms : List ByteArray) (hn : ms.length = n) (name : ByteArray) (like : Int) (w : World) (hT : Tbl w base (.map r) (.slice sa n scap) ms) (hbase : base ≤ w.heap.size) (hz : name.size ≤ 1048576) (hlen : n ≤ 10000)
    (hlike : like = -1 ∨ ∃ j : Nat, like = j ∧ j < n) :
    Calls Try.prog 7 #[.map r, .slice sa n scap, .string name, .int .i32 like] w fun e w' => ZRes w base ms name e w' := by
  subst hn
  exact zz_any base r sa scap ms name like w hT hbase hz hlen hlike

theorem str_ne' {a b : ByteArray} (h : a ≠ b) : (a.toList == b.toList) = false := by
  cases hh : (a.toList == b.toList)
  · rfl
  · exfalso
    apply h
    have : a.toList = b.toList := by simpa using hh
    rw [ByteArray.toList_eq, ByteArray.toList_eq] at this
    apply ByteArray.ext
    exact Array.toList_inj.1 this

theorem not_lst {ss : Nat → ByteArray} {name : ByteArray} {k : Nat} (h : name ∉ lst ss k) (hn : ss k ≠ name) : name ∉ lst ss (k + 1) := by
  rw [lst_succ]
  simp only [List.mem_append, List.mem_singleton]
  rintro (h1 | h1)
  · exact h h1
  · exact hn h1.symm

end Go.Proofs.Qxb6621657a
