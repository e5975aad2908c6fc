/-
  FnSetLenAddsAtAnyCut: the walk.
-/
import Derived.Test.Qxb6619738aGuards
import Derived.Test.Qxb6619738aLen
import Derived.Test.Qxb6619738aSetOf
import Derived.Test.Qxb6619738aIns
import Derived.Test.Qxb6619738aSums
import Derived.Deep.DeepCutAuto
namespace Go.Proofs.Qxb6619738a
open Go.RowKit

/-- where xs[j:] begins -/
def tailAt (a : Option Addr) (cap j : Nat) : Option Addr := if cap = j then a else a.map (·.add (j * 1))

theorem slice_to (t e : TypeId) (h : Try.prog.underlying t = some (.slice e)) (hs : (Try.prog.info? e).map (·.size) = some 1) (a : Option Addr) (n cap j : Nat) (hj : j ≤ cap) (w : World) :
    (Instr.slice t (.slice a n cap) none (some (.int .i64 (j : Int))) none).run Try.prog w = .ok (.slice a j cap) w := by
  obtain ⟨i, hi, _⟩ := Option.map_eq_some_iff.1 hs
  have hj' : (j : Int) ≤ (cap : Int) := by omega
  simp [Instr.slice, run_underlying h, Instr.sliceBounds, sizeOf, typeInfo, hi, hj', go_sem]
theorem slice_from (t e : TypeId) (h : Try.prog.underlying t = some (.slice e)) (hs : (Try.prog.info? e).map (·.size) = some 1) (a : Option Addr) (n cap j : Nat) (hj : j ≤ n) (w : World) :
    (Instr.slice t (.slice a n cap) (some (.int .i64 (j : Int))) none none).run Try.prog w = .ok (.slice (tailAt a cap j) (n - j) (cap - j)) w := by
  obtain ⟨i, hi, hz⟩ := Option.map_eq_some_iff.1 hs
  have hj' : (j : Int) ≤ (n : Int) := by omega
  simp [Instr.slice, run_underlying h, Instr.sliceBounds, sizeOf, typeInfo, hi, hz, hj', tailAt, go_sem]

theorem IsInts.left {w : World} {a : Option Addr} {n cap j : Nat} {z : Nat → Int} (h : IsInts w (.slice a n cap) n z) (hj : j ≤ n) : IsInts w (.slice a j cap) j z := by
  obtain ⟨a', c', e, h⟩ := h
  cases e
  refine ⟨_, _, rfl, fun h0 => ?_⟩
  obtain ⟨b, off, rfl, hb, hc⟩ := h (by omega)
  exact ⟨b, off, rfl, hb, fun i hi => hc i (by omega)⟩
theorem IsInts.right {w : World} {a : Option Addr} {n cap j : Nat} {z : Nat → Int} (h : IsInts w (.slice a n cap) n z) (hj : j ≤ n) (hc : n ≤ cap) : IsInts w (.slice (tailAt a cap j) (n - j) (cap - j)) (n - j) (fun i => z (j + i)) := by
  obtain ⟨a', c', e, h⟩ := h
  cases e
  refine ⟨_, _, rfl, fun h0 => ?_⟩
  obtain ⟨b, off, rfl, hb, hcc⟩ := h (by omega)
  refine ⟨b, off + j, ?_, hb, fun i hi => ?_⟩
  · have : ¬ cap = j := by omega
    simp [tailAt, this, WideShapes.add_plain]
  · have := hcc (j + i) (by omega)
    rwa [← Nat.add_assoc] at this
theorem IsRows.left {w : World} {a : Option Addr} {n cap j : Nat} {L : Nat → Nat} {p q : Nat → Nat → Int} (h : IsRows w (.slice a n cap) n L p q) (hj : j ≤ n) : IsRows w (.slice a j cap) j L p q := by
  obtain ⟨a', c', e, h⟩ := h
  cases e
  refine ⟨_, _, rfl, fun h0 => ?_⟩
  obtain ⟨b, off, rfl, hb, hc⟩ := h (by omega)
  exact ⟨b, off, rfl, hb, fun i hi => hc i (by omega)⟩
theorem IsRows.right {w : World} {a : Option Addr} {n cap j : Nat} {L : Nat → Nat} {p q : Nat → Nat → Int} (h : IsRows w (.slice a n cap) n L p q) (hj : j ≤ n) (hc : n ≤ cap) :
    IsRows w (.slice (tailAt a cap j) (n - j) (cap - j)) (n - j) (fun i => L (j + i)) (fun i => p (j + i)) (fun i => q (j + i)) := by
  obtain ⟨a', c', e, h⟩ := h
  cases e
  refine ⟨_, _, rfl, fun h0 => ?_⟩
  obtain ⟨b, off, rfl, hb, hcc⟩ := h (by omega)
  refine ⟨b, off + j, ?_, hb, fun i hi => ?_⟩
  · have : ¬ cap = j := by omega
    simp [tailAt, this, WideShapes.add_plain]
  · have := hcc (j + i) (by omega)
    rwa [← Nat.add_assoc] at this

theorem allSum_cut (L : Nat → Nat) (p q : Nat → Nat → Int) (n j : Nat) (hj : j ≤ n) : allSum L p q n = allSum L p q j + allSum (fun i => L (j + i)) (fun i => p (j + i)) (fun i => q (j + i)) (n - j) := by
  obtain ⟨d, rfl⟩ : ∃ d, n = j + d := ⟨n - j, by omega⟩
  unfold allSum
  rw [sumZ_add, Nat.add_sub_cancel_left]
theorem sumN_cut (L : Nat → Nat) (n j : Nat) (hj : j ≤ n) : sumN (fun i => L (j + i)) (n - j) ≤ sumN L n := by
  obtain ⟨d, rfl⟩ : ∃ d, n = j + d := ⟨n - j, by omega⟩
  rw [sumN_add, Nat.add_sub_cancel_left]
  omega
theorem halves (T A B : Int) (h : T = A + B) : (wrap64 T == wrap64 (wrap64 A + wrap64 B)) = true := by
  have : wrap64 T = wrap64 (wrap64 A + wrap64 B) := wrap64_mod _ _ (by have := wrap64_emod A; have := wrap64_emod B; omega)
  simp [this]

theorem Try.size33 : (Try.prog.info? 33).map (·.size) = some 1 := by kernel_rfl

set_option maxRecDepth 100000 in
set_option maxHeartbeats 3200000 in
theorem law3_any (a0 a1 : Option Addr) (c0 c1 : Nat) (n m : Nat) (z : Nat → Int) (L : Nat → Nat) (p q : Nat → Nat → Int) (j : Int) (w : World) (H0 : IsInts w (.slice a0 n c0) n z) (H1 : IsRows w (.slice a1 m c1) m L p q) (hc0 : n ≤ c0) (hc1 : m ≤ c1) :
    Calls Try.prog 3 #[.slice a0 n c0, .slice a1 m c1, .int .i64 j] w fun e w' => e = .returned (.bool true) ∧ Below w.heap.size w w' := by
  have hnil := fun w => run_neq_slice_nil_any (P := Try.prog) w 22 3 a0 n c0 0 0 Try.underlying22
  go_enter Try.func3, Try.ntmps3
  go_wp2_with fail
  refine (bytes5_any _ _ j n m z L p q w H0 H1).mono ?_
  rintro e w' ⟨⟨b, rfl, hb⟩, rfl⟩
  cases b with
  | false =>
    go_wp2
    go_ret
    exact ⟨rfl, Below.refl _ _⟩
  | true =>
  obtain ⟨hn, hm, hL⟩ := hb rfl
  go_wp2_with fail
  refine (tooBig_any _ _ n m z L p q _ H0 H1 hn hm hL).mono ?_
  rintro e w' ⟨⟨b, rfl, hb⟩, rfl⟩
  cases b with
  | true =>
    go_wp2
    go_ret
    exact ⟨rfl, Below.refl _ _⟩
  | false =>
  clear hn hm
  obtain ⟨hn, hm⟩ := hb rfl
  by_cases hnm : n = m
  case neg =>
    have : ((n : Int) != (m : Int)) = true := by simp; omega
    go_wp2
    go_ret
    exact ⟨rfl, Below.refl _ _⟩
  subst hnm
  by_cases hi : 0 ≤ j ∧ j ≤ n
  case neg =>
    by_cases hi0 : j < 0
    · go_wp2
      go_ret
      exact ⟨rfl, Below.refl _ _⟩
    · have : (n : Int) < j := by omega
      go_wp2
      go_ret
      exact ⟨rfl, Below.refl _ _⟩
  obtain ⟨jj, rfl⟩ := Int.eq_ofNat_of_zero_le hi.1
  have hjj : jj ≤ n := by omega
  clear hi
  go_upto_if 33 with fail
  go_cut [0] (fun v wc => ∃ a cap, v = .slice a n cap ∧ n ≤ cap ∧ IsInts wc (.slice a n cap) n z ∧ Below w.heap.size w wc)
  case first =>
    cases a0 with
    | none =>
      go_wp2
      go_meet
      case rel => exact ⟨_, _, rfl, hc0, H0, Below.refl _ _⟩
    | some ad =>
      have hmk := run_make_row' (P := Try.prog) 22 3 (.int .i64 0) 8 Try.underlying22 Try.info3 rfl .i64 .i64 n (by omega) (by omega)
      obtain ⟨W2, hcp, hI2, hB2⟩ := copy_ints w ad n c0 z H0
      go_wp2
      go_meet
      case rel => exact ⟨_, _, rfl, Nat.le_refl _, hI2, hB2⟩
  case rest =>
    obtain ⟨va, vcap, rfl, hvc, hI, hB⟩ := hcut
    have hR := H1.below hB
    clear hnil H0 H1
    have s1 := slice_to 22 3 Try.underlying22 Try.size3 va n vcap jj (by omega)
    have s2 := slice_to 23 33 Try.underlying23 Try.size33 a1 n c1 jj (by omega)
    have s3 := slice_from 22 3 Try.underlying22 Try.size3 va n vcap jj hjj
    have s4 := slice_from 23 33 Try.underlying23 Try.size33 a1 n c1 jj hjj
    have hIl := hI.left hjj
    have hIr := hI.right hjj hvc
    have hRl := hR.left hjj
    have hRr := hR.right hjj hc1
    have hcut := allSum_cut L p q n jj hjj
    have HC := hide hcut
    clear hcut
    have hLl := sumN_mono L hjj
    have hLr := sumN_cut L n jj hjj
    go_wp2_with fail
    refine (setOf_any _ _ n z L p q _ hI hR (by omega) (by omega)).mono ?_
    rintro e w3 ⟨base, b, N, rfl, hgrp, hN, hb3⟩
    go_wp2_with fail
    refine (len_any base b N _ _ hgrp (by omega)).mono ?_
    rintro e w4 ⟨rfl, hb4⟩
    have hb34 := hb3.trans (hb4.mono hb3.size)
    clear hgrp
    have hIl := hIl.below hb34
    have hIr := hIr.below hb34
    have hRl := hRl.below hb34
    have hRr := hRr.below hb34
    go_wp2_with fail
    go_region_held3 (fun _ => True) (trivial)
      (first
        | (go_at_call 7; refine (setOf_any _ _ jj z L p q _ (hIl.below ((Below.refl _ _).drew)) (hRl.below ((Below.refl _ _).drew)) (by omega) (by omega)).mono ?_; rintro e w5 ⟨base1, b1, N1, rfl, hgrp1, hN1, hb5⟩)
        | (go_at_call 8; refine (len_any base1 b1 N1 _ _ hgrp1 (by omega)).mono ?_; rintro e w6 ⟨rfl, hb6⟩))
    have hb46 : Below w4.heap.size w4 w6 := ((Below.refl _ _).drew.trans hb5).trans (hb6.mono hb5.size)
    have hIr := hIr.below hb46
    have hRr := hRr.below hb46
    have hRl := hRl.below hb46
    clear hgrp1
    go_wp2_with fail
    go_region_held3 (fun _ => True) (trivial)
      (first
        | (go_at_call 7; refine (setOf_any _ _ (n - jj) (fun i => z (jj + i)) (fun i => L (jj + i)) (fun i => p (jj + i)) (fun i => q (jj + i)) _ (hIr.below ((Below.refl _ _).drew)) (hRr.below ((Below.refl _ _).drew)) (by omega) (by omega)).mono ?_; rintro e w7 ⟨base2, b2, N2, rfl, hgrp2, hN2, hb7⟩)
        | (go_at_call 8; refine (len_any base2 b2 N2 _ _ hgrp2 (by omega)).mono ?_; rintro e w8 ⟨rfl, hb8⟩))
    have hb68 : Below w6.heap.size w6 w8 := ((Below.refl _ _).drew.trans hb7).trans (hb8.mono hb7.size)
    have hRr := hRr.below hb68
    have hRl := hRl.below hb68
    clear hgrp2
    have hend : Below w.heap.size w w8 := (((hB.trans (hb34.mono hB.size)).trans (hb46.mono (Nat.le_trans hB.size hb34.size))).trans (hb68.mono (Nat.le_trans (Nat.le_trans hB.size hb34.size) hb46.size)))
    have hans := halves _ _ _ HC.out
    have HRR := hide hRr
    have HRL := hide hRl
    have hLl2 : sumN L jj ≤ 1100000 := by omega
    have hLr2 : sumN (fun i => L (jj + i)) (n - jj) ≤ 1100000 := by omega
    clear hRr hRl HC hLl hLr hIl hIr s1 s3
    have c1 := sums_any _ jj L p q w8 HRL.out (by omega) hLl2
    have c2 := sums_any _ (n - jj) (fun i => L (jj + i)) (fun i => p (jj + i)) (fun i => q (jj + i)) w8 HRR.out (by omega) hLr2
    have C1 := hide c1
    have C2 := hide c2
    clear c1 c2 hI hR
    generalize allSum (fun i => L (jj + i)) (fun i => p (jj + i)) (fun i => q (jj + i)) (n - jj) = B at *
    generalize allSum L p q jj = A at *
    generalize allSum L p q n = T at *
    have e1 : (wrap64 A == wrap64 A) = true := by simp
    have e2 : (wrap64 B == wrap64 B) = true := by simp
    go_wp2_with fail
    refine C1.out.mono ?_
    rintro e w9 ⟨rfl, rfl⟩
    go_wp2_with fail
    refine C2.out.mono ?_
    rintro e w9 ⟨rfl, rfl⟩
    go_wp2
    go_ret
    exact ⟨rfl, hend⟩

end Go.Proofs.Qxb6619738a
