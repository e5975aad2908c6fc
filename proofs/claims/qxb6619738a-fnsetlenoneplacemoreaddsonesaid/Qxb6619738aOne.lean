/-
  FnSetLenOnePlaceMoreAddsOne: the walk.
-/
import Derived.Test.Qxb6619738aGuards
import Derived.Test.Qxb6619738aLen
import Derived.Test.Qxb6619738aSetOf
import Derived.Test.Qxb6619738aIns
import Derived.Deep.DeepCutAuto
namespace Go.Proofs.Qxb6619738a
open Go.RowKit

set_option maxRecDepth 100000 in
set_option maxHeartbeats 3200000 in
theorem law4_any (v0 v1 : Value) (n m : Nat) (z : Nat → Int) (L : Nat → Nat) (p q : Nat → Nat → Int) (i c x : Int) (w : World) (h0 : IsInts w v0 n z) (h1 : IsRows w v1 m L p q) (hwc : (Lit.int .i64 c).wf = true) :
    Calls Try.prog 4 #[v0, v1, .int .i64 i, .int .i64 c, .int .i64 x] w fun e w' => e = .returned (.bool true) ∧ Below w.heap.size w w' := by
  have H0 := h0
  have H1 := h1
  obtain ⟨a0, c0, rfl, hcs⟩ := h0
  obtain ⟨a1, c1, rfl, hrs⟩ := h1
  have hnil := fun w => run_neq_slice_nil_any (P := Try.prog) w 22 3 a0 n c0 0 0 Try.underlying22
  go_enter Try.func4, Try.ntmps4
  go_wp2_with fail
  refine (bytes10_any _ _ i c x n m z L p q w H0 H1).mono ?_
  rintro e w' ⟨⟨b, rfl, hb⟩, rfl⟩
  cases b with
  | false =>
    go_wp2
    go_ret
    exact ⟨rfl, Below.refl _ _⟩
  | true =>
  obtain ⟨hn, hm, hL⟩ := hb rfl
  go_wp2_with fail
  refine (tooBig_any _ _ n m z L p q _ H0 H1 hn hm hL).mono ?_
  rintro e w' ⟨⟨b, rfl, hb⟩, rfl⟩
  cases b with
  | true =>
    go_wp2
    go_ret
    exact ⟨rfl, Below.refl _ _⟩
  | false =>
  clear hn hm
  obtain ⟨hn, hm⟩ := hb rfl
  by_cases hnm : n = m
  case neg =>
    have : ((n : Int) != (m : Int)) = true := by simp; omega
    go_wp2
    go_ret
    exact ⟨rfl, Below.refl _ _⟩
  subst hnm
  by_cases hi : 0 ≤ i ∧ i ≤ n
  case neg =>
    by_cases hi0 : i < 0
    · go_wp2
      go_ret
      exact ⟨rfl, Below.refl _ _⟩
    · have : (n : Int) < i := by omega
      go_wp2
      go_ret
      exact ⟨rfl, Below.refl _ _⟩
  obtain ⟨ii, rfl⟩ := Int.eq_ofNat_of_zero_le hi.1
  have hii : ii ≤ n := by omega
  clear hi
  go_upto_if 44 with fail
  go_cut [0] (fun v wc => IsInts wc v n z ∧ Below w.heap.size w wc)
  case first =>
    cases a0 with
    | none =>
      go_wp2
      go_meet
      case rel => exact ⟨H0, Below.refl _ _⟩
    | some ad =>
      have hmk := run_make_row' (P := Try.prog) 22 3 (.int .i64 0) 8 Try.underlying22 Try.info3 rfl .i64 .i64 n (by omega) (by omega)
      obtain ⟨W2, hcp, hI2, hB2⟩ := copy_ints w ad n c0 z H0
      clear hcs hrs
      go_wp2
      go_meet
      case rel => exact ⟨hI2, hB2⟩
  case rest =>
    obtain ⟨hI, hB⟩ := hcut
    have HI := hI
    obtain ⟨va, vcap, rfl, hcs2⟩ := hI
    have HR := H1.below hB
    obtain ⟨A, Cp, hrs2⟩ := HR.fn
    clear hcs hrs hnil H0 H1
    have hmk1 := run_make_row' (P := Try.prog) 22 3 (.int .i64 0) 8 Try.underlying22 Try.info3 rfl .i64 .i64 (n + 1) (by omega) (by omega)
    have hmk2 := run_make_row' (P := Try.prog) 23 33 (.slice none 0 0) 24 Try.underlying23 Try.info33 rfl .i64 .i64 (n + 1) (by omega) (by omega)
    have ec : ((n + 1 : Nat) : Int) = (n : Int) + 1 := by omega
    rw [ec] at hmk1 hmk2
    clear ec
    go_wp2
    go_loopw [15] (fun j wr => ∃ k : Nat, k ≤ ii ∧ j = .int .i64 k ∧ Two wc wr wc.heap.size n (pre k z 0) (pre k (rowV A L Cp) (.slice none 0 0))) (fun j _ => ii - (intOf j).toNat)
    case atStart =>
      have e1 : (wc.alloc (.cells (madeCells #[.int .i64 0] (n + 1)) 3)).heap.size = wc.heap.size + 1 := by simp
      have r2 := World.rowIs_made (wc.alloc (.cells (madeCells #[.int .i64 0] (n + 1)) 3)) (.slice none 0 0) (n + 1) 33
      rw [e1] at r2
      exact ⟨0, Nat.zero_le _, rfl, ((World.rowIs_made wc (.int .i64 0) (n + 1) 3).alloc _).congr (fun j _ => by simp [pre]), r2.congr (fun j _ => by simp [pre]), ((Below.refl _ _).alloc (Nat.le_refl _) _).alloc (by simp) _, by simp⟩
    case round =>
      obtain ⟨k, hk, rfl, hTwo⟩ := hrel
      by_cases hlt : k < ii
      · obtain ⟨cb, co, rfl, hcb, hcc⟩ := hcs2 (by omega)
        obtain ⟨rb, ro, rfl, hrb, hrr⟩ := hrs2 (by omega)
        have f1 := (hTwo.2.2.1.cell (p := ⟨cb, co + k, none⟩) hcb).trans (hcc k (by omega)).1
        have f2 := (hTwo.2.2.1.cell (p := ⟨rb, ro + k, none⟩) hrb).trans (hrr k (by omega)).1
        have f3 := hTwo.1.cell (i := k) (by omega)
        have f4 := hTwo.2.1.cell (i := k) (by omega)
        have f5 := hTwo.1.frozen k
        have f6 := hTwo.2.1.frozen k
        have HT : Hid (Two wc wr wc.heap.size n (pre k z 0) (pre k (rowV A L Cp) (.slice none 0 0))) := hTwo
        clear hTwo hcc hrr
        generalize pre k z 0 k = o1 at f3
        generalize pre k (rowV A L Cp) (.slice none 0 0) k = o2 at f4
        go_wp2
        go_roundw
        case rel => exact ⟨k + 1, by omega, by go_num, HT.out.step k (z k) _ (fun j _ => pre_step k z 0 j) (fun j _ => pre_step k (rowV A L Cp) _ j)⟩
        case measure => simp [intOf]; omega
      · have e : k = ii := by omega
        subst e
        have f3 := hTwo.1.cell (i := k) (by omega)
        have f4 := hTwo.2.1.cell (i := k) (by omega)
        have f5 := hTwo.1.frozen k
        have f6 := hTwo.2.1.frozen k
        have hsz := hTwo.2.2.2
        have HT : Hid (Two wc wr wc.heap.size n (pre k z 0) (pre k (rowV A L Cp) (.slice none 0 0))) := hTwo
        clear hTwo hmk1 hmk2
        generalize pre k z 0 k = o1 at f3
        generalize pre k (rowV A L Cp) (.slice none 0 0) k = o2 at f4
        have hmk3 : ∀ w, (Instr.makeSlice 33 (.int .i64 1) (.int .i64 1)).run Try.prog w = .ok (.slice (some ⟨w.heap.size, 0, none⟩) 1 1) (w.alloc (.cells #[.int .i64 0, .int .i64 0] 34)) := fun _ => by kernel_rfl
        have g1 : ∀ o, ((wr.setCell ⟨wc.heap.size, k, none⟩ (.int .i64 c)).alloc o).frozen? ⟨wc.heap.size + 1, k, none⟩ = false := fun o => by
          rw [World.frozen?_alloc_old _ _ _ (by simp [World.setCell]; omega), World.frozen?_setCell]
          exact f6
        have g2 : ∀ o, ((wr.setCell ⟨wc.heap.size, k, none⟩ (.int .i64 c)).alloc o).cell? ⟨wc.heap.size + 1, k, none⟩ = some o2 := fun o => by
          rw [World.cell?_alloc_lt _ _ _ (by simp [World.setCell]; omega), World.cell?_setCell_other _ _ _ _ (by simp)]
          exact f4
        go_wp2
        go_loopw [17] (fun j w2 => ∃ t : Nat, k ≤ t ∧ t ≤ n ∧ j = .int .i64 t ∧ Two3 wc w2 wc.heap.size n wr.heap.size (.cells #[.int .i64 x, .int .i64 x] 34) (mid k t z c 0) (mid k t (rowV A L Cp) (.slice (some ⟨wr.heap.size, 0, none⟩) 1 1) (.slice none 0 0))) (fun j _ => n - (intOf j).toNat)
        case atStart => exact ⟨k, Nat.le_refl _, hii, rfl, HT.out.lay k c _ _ (fun j _ => mid_start k z c 0 j) (fun j _ => mid_start k (rowV A L Cp) _ _ j)⟩
        case round =>
          clear g1 g2 hmk3 f3 f4 f5 f6 HT
          obtain ⟨t, hkt, htn, rfl, hTh⟩ := hrel
          by_cases hlt : t < n
          · obtain ⟨cb, co, rfl, hcb, hcc⟩ := hcs2 (by omega)
            obtain ⟨rb, ro, rfl, hrb, hrr⟩ := hrs2 (by omega)
            have f1 := (hTh.1.2.2.1.cell (p := ⟨cb, co + t, none⟩) hcb).trans (hcc t (by omega)).1
            have f2 := (hTh.1.2.2.1.cell (p := ⟨rb, ro + t, none⟩) hrb).trans (hrr t (by omega)).1
            have f3 := hTh.1.1.cell (i := t + 1) (by omega)
            have f4 := hTh.1.2.1.cell (i := t + 1) (by omega)
            have f5 := hTh.1.1.frozen (t + 1)
            have f6 := hTh.1.2.1.frozen (t + 1)
            have HT := hide hTh
            clear hTh hcc hrr
            generalize mid k t z c 0 (t + 1) = o3 at f3
            generalize mid k t (rowV A L Cp) _ (.slice none 0 0) (t + 1) = o4 at f4
            go_wp2
            go_roundw
            case rel => exact ⟨t + 1, by omega, by omega, by go_num, (unhide HT).step (t + 1) (z t) _ (fun j _ => mid_step k t hkt z c 0 j) (fun j _ => mid_step k t hkt (rowV A L Cp) _ _ j)⟩
            case measure => simp [intOf]; omega
          · have e : t = n := by omega
            subst e
            have HT := hide hTh
            have hb2 := hTh.1.2.2.1
            clear hTh hlt
            have hI2 := (unhide HT).ints hii HI.wf hwc
            have hR2 := (unhide HT).rows hii rfl (fun j hj => (by
              obtain ⟨b, off, _, _, hcc⟩ := hrs2 (by omega)
              exact (hcc j hj).2))
            go_wp2_with fail
            refine (setOf_any _ _ t z L p q _ (HI.below hb2) (HR.below hb2) (by omega) (by omega)).mono ?_
            rintro e w3 ⟨base, b, N, rfl, hgrp, hN, hb3⟩
            go_wp2_with fail
            refine (len_any base b N _ _ hgrp (by omega)).mono ?_
            rintro e w4 ⟨rfl, hb4⟩
            have hb34 := hb3.trans (hb4.mono hb3.size)
            go_wp2_with fail
            refine (setOf_any _ _ (t + 1) (ins k z c) (ins k L 1) (ins k p (fun _ => x)) (ins k q (fun _ => x)) _ (hI2.below hb34) (hR2.below hb34) (by omega) (by rw [sumN_ins L 1 k t hii]; omega)).mono ?_
            rintro e w5 ⟨base', b', N', rfl, hgrp', hN', hb5⟩
            go_wp2_with fail
            refine (len_any base' b' N' _ _ hgrp' (by omega)).mono ?_
            rintro e w6 ⟨rfl, hb6⟩
            rw [allSum_ins L p q x k t hii]
            have hans := one_more (allSum L p q t)
            have hend : Below w.heap.size w w6 := ((((hB.trans (hb2.mono hB.size)).trans (hb34.mono (Nat.le_trans hB.size hb2.size))).trans (hb5.mono (Nat.le_trans (Nat.le_trans hB.size hb2.size) hb34.size))).trans (hb6.mono (Nat.le_trans (Nat.le_trans (Nat.le_trans hB.size hb2.size) hb34.size) hb5.size)))
            clear hgrp hgrp' hcs2 hrs2 HI HR hI2 hR2 HT
            generalize allSum L p q t = T at *
            go_wp2
            go_ret
            exact ⟨by first | rfl | exact congrArg (fun b => Ending.returned (.bool b)) hans, hend⟩

end Go.Proofs.Qxb6619738a
