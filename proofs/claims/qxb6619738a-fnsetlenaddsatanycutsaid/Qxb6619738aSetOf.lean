/-
  ZZSetOf: the walk.
-/
import Derived.Test.Qxb6619738aRuns
import Derived.Deep.RegionHeld3
import Derived.Deep.AppendLies
import Derived.Deep.DrawnRows
namespace Go.Proofs.Qxb6619738a
open Go.RowKit Go.ChangeMaps Go.MapKept Go.Maps
attribute [local go_sem ↓] Go.wp_at_zero Go.wp_at_succ

theorem Try.info37 : (Try.prog.info? 37).map (fun i => (i.zero, i.size, i.bytes)) = some (some (.agg #[.int .i64 0, .int .i64 0]), 2, 16) := by kernel_rfl

/-- what comes back: a set in new memory, whose pairs sum to T -/
def SetRes (w : World) (T : Int) (e : Ending) (w' : World) : Prop := ∃ base b N, e = .returned (.agg #[.map (some b)]) ∧ Grp w' base b N T ∧ N ≤ 2000000 ∧ Below w.heap.size w w'

theorem step_end {wr w1 w2 W0 : World} {B N m : Nat} {A sv : Int} {P Q : Nat → Int} {v : Value} (hgrp2 : Grp w2 (B + 2) (B + 1) (N + m + 1) (A + rowSum P Q m - sv + (sv + (Q m - P m + 1)))) (hbel : Below (B + 1) W0 wr) (hto : wr.grownBy w1 v.ownBlock) (hgrow2 : w1.grownBy w2 (some (B + 1)))
    (hsz : B + 2 ≤ wr.heap.size) (hvl : ∀ j, v.ownBlock = some j → B + 2 ≤ j) : Grp w2 (B + 2) (B + 1) (N + (m + 1)) (A + rowSum P Q (m + 1)) ∧ Below (B + 1) W0 w2 ∧ B + 2 ≤ w2.heap.size := by
  refine ⟨?_, (hbel.grown hto (by omega) (fun j hj => by have := hvl j hj; omega)).grown hgrow2 (by have := hto.size; omega) (fun j hj => by cases hj; omega), by have := hto.size; have := hgrow2.size; omega⟩
  have e : A + rowSum P Q (m + 1) = A + rowSum P Q m - sv + (sv + (Q m - P m + 1)) := by show A + (rowSum P Q m + (Q m - P m + 1)) = _; omega
  rw [e]
  exact hgrp2

set_option maxRecDepth 100000 in
set_option maxHeartbeats 3200000 in
theorem setOf_any (v0 v1 : Value) (n : Nat) (z : Nat → Int) (L : Nat → Nat) (p q : Nat → Nat → Int) (w : World) (h0 : IsInts w v0 n z) (h1 : IsRows w v1 n L p q) (hn : n ≤ 70000) (hL : sumN L n ≤ 1100000) :
    Calls Try.prog 7 #[v0, v1] w fun e w' => SetRes w (allSum L p q n) e w' := by
  obtain ⟨a0, c0, rfl, h0⟩ := h0
  obtain ⟨a1, c1, rfl, h1⟩ := h1
  have hmm := @run_makeMap Try.prog
  obtain ⟨i0, hi, hz0, hz1, hz2⟩ := info_parts Try.info37
  go_enter Try.func7, Try.ntmps7
  go_wp2
  go_loopw [6] (fun i wr => ∃ k : Nat, k ≤ n ∧ i = .int .i64 k ∧ Grp wr (w.heap.size + 2) (w.heap.size + 1) (sumN L k) (allSum L p q k) ∧ Below (w.heap.size + 1) (w.alloc (.cells #[.map none] 28)) wr ∧ w.heap.size + 2 ≤ wr.heap.size)
    (fun i _ => n - (intOf i).toNat)
  case atStart =>
    have e1 : (w.alloc (.cells #[.map none] 28)).heap.size = w.heap.size + 1 := by simp
    have g0 := Grp.made (w.alloc (.cells #[.map none] 28))
    rw [e1] at g0
    exact ⟨0, Nat.zero_le _, rfl, g0, (Below.refl _ _).alloc (by simp) _, by simp⟩
  case round =>
    obtain ⟨k, hk, rfl, hgrp, hbel, hsz⟩ := hrel
    by_cases hlt : k < n
    · go_wp2
      go_loopw [7] (fun j wr => ∃ m : Nat, m ≤ L k ∧ j = .int .i64 m ∧ Grp wr (w.heap.size + 2) (w.heap.size + 1) (sumN L k + m) (allSum L p q k + rowSum (p k) (q k) m) ∧ Below (w.heap.size + 1) (w.alloc (.cells #[.map none] 28)) wr ∧ w.heap.size + 2 ≤ wr.heap.size)
        (fun j _ => L k - (intOf j).toNat)
      case atStart =>
        exact ⟨0, Nat.zero_le _, rfl, by simpa [rowSum, sumZ] using hgrp, hbel, hsz⟩
      case round =>
        clear hgrp hbel hsz
        obtain ⟨m, hm, rfl, hgrp, hbel, hsz⟩ := hrel
        have HLs : Hid (sumN L (k + 1) = sumN L k + L k ∧ sumN L (k + 1) ≤ sumN L n) := ⟨rfl, sumN_mono L hlt⟩
        have hLs : sumN L k + L k ≤ 1100000 := by have := HLs.out.1; have := HLs.out.2; omega
        obtain ⟨cb, co, rfl, hcb, hc0⟩ := h0 (by omega)
        obtain ⟨rb, ro, rfl, hrb, hc1⟩ := h1 (by omega)
        obtain ⟨u, hu, ua, uc, rfl, hrow⟩ := hc1 k hlt
        have old : ∀ {b o : Nat}, b < w.heap.size → wr.cell? ⟨b, o, none⟩ = w.cell? ⟨b, o, none⟩ := fun {b o} hb => (hbel.cell (p := ⟨b, o, none⟩) (by simp; omega)).trans (World.cell?_alloc_lt _ _ _ (by simpa using hb))
        have hu1 := (old (o := ro + k) hrb).trans hu
        have hz := hc0 k hlt
        have hz1' := (old (o := co + k) hcb).trans hz.1
        have hwf := hz.2
        clear hz hc0 hc1 hu
        by_cases hlm : m < L k
        · obtain ⟨g, off, rfl, hg, hpq⟩ := hrow (by omega)
          have hp := (old (o := off + m * 2) hg).trans (hpq m hlm).1
          have hq := (old (o := off + m * 2 + 1) hg).trans (hpq m hlm).2
          clear hpq hrow old
          obtain ⟨v, nv, sv, hlook, hown, hnv, hback⟩ := hgrp.look (by unfold maxLen; omega) hwf
          obtain ⟨xs, hrow, hps⟩ := hown
          have hvl : ∀ j, v.ownBlock = some j → w.heap.size + 2 ≤ j := fun j hj => (hrow.lt j hj).1
          have hne : ∀ j, j < w.heap.size → some j ≠ v.ownBlock := fun j hj e => by have := hvl j e.symm; omega
          have hl1 := hlook wr.drew rfl
          have hl2 : ∀ o, (Instr.lookup 26 (.map (some (w.heap.size + 1))) (.int .i64 (z k)) false).run Try.prog (wr.alloc o).drew = .ok v (wr.alloc o).drew := fun o => hlook _ (Below.heap_alloc _ _ _ (by omega))
          have hgl := hgrp.lt
          have HB : Hid (GrpBack wr (w.heap.size + 2) (w.heap.size + 1) (sumN L k + m) (allSum L p q k + rowSum (p k) (q k) m) (z k) v sv) := hback
          have HX : Hid (pairSum xs = some sv) := hps
          clear hlook hback hps hgrp
          have q1 : (0 : Int) ≤ (k : Int) := Int.natCast_nonneg _
          have q2 : (k : Int) < (n : Int) := by omega
          have q3 : (0 : Int) ≤ (m : Int) := Int.natCast_nonneg _
          have q4 : (m : Int) < (L k : Int) := by omega
          go_wp2_with fail
          go_region_held3 (fun w' => w'.cell? ⟨cb, co + k, none⟩ = some (.int .i64 (z k)) ∧ w'.cell? ⟨rb, ro + k, none⟩ = some (.slice (some ⟨g, off, none⟩) (L k) uc) ∧
              w'.cell? ⟨g, off + m * 2, none⟩ = some (.int .i64 (p k m)) ∧ w'.cell? ⟨g, off + m * 2 + 1, none⟩ = some (.int .i64 (q k m)))
            (first
              | (go_split_ands
                 refine ⟨by go_keep, by go_keep, by go_keep, by go_keep⟩)
              | (go_split_ands
                 refine ⟨?_, ?_, ?_, ?_⟩
                 · exact (hgrow2.cell_far ⟨cb, co + k, none⟩ (Nat.lt_of_lt_of_le hcb hs1) (by simp; omega)).trans (by assumption)
                 · exact (hgrow2.cell_far ⟨rb, ro + k, none⟩ (Nat.lt_of_lt_of_le hrb hs1) (by simp; omega)).trans (by assumption)
                 · exact (hgrow2.cell_far ⟨g, off + m * 2, none⟩ (Nat.lt_of_lt_of_le hg hs1) (by simp; omega)).trans (by assumption)
                 · exact (hgrow2.cell_far ⟨g, off + m * 2 + 1, none⟩ (Nat.lt_of_lt_of_le hg hs1) (by simp; omega)).trans (by assumption))
              | (go_split_ands
                 refine ⟨?_, ?_, ?_, ?_⟩
                 · (rw [hgrow.cell_far _ (by simp; omega) (hne _ hcb)]; assumption)
                 · (rw [hgrow.cell_far _ (by simp; omega) (hne _ hrb)]; assumption)
                 · (rw [hgrow.cell_far _ (by simp; omega) (hne _ hg)]; assumption)
                 · (rw [hgrow.cell_far _ (by simp; omega) (hne _ hg)]; assumption)))
            ((refine step_append_lies _ (by rfl) _ _ _ (by rfl) (w.heap.size + 2) 37 i0 _ 2 16 Try.underlying35 hi hz0 hz1 hz2 rfl (by omega) v nv xs (by rfl) ((hrow.alloc _).drew)
                ⟨wr.heap.size, 0, none⟩ 1 1 [.int .i64 (p k m), .int .i64 (q k m)] (by rfl) (by rfl) (World.news_of_block (cs := #[.int .i64 (p k m), .int .i64 (q k m)]) (t := 37) (fr := (0, 0)) (heap_alloc_new wr _)) (by simp [Value.oneCell'])
                (by omega) (by unfold maxLen; omega) (by omega) (by simp; omega) (wr.heap.size + 1) (by simp) ?_; intro gg cap w1 hown1 hgrow hat hlt1
              have hto : wr.grownBy w1 v.ownBlock := (World.grownBy_alloc wr _ _).trans ⟨hgrow.os, hgrow.tape, hgrow.output, hgrow.size, hgrow.block⟩
              obtain ⟨w2, hrun2, hgrp2, hgrow2⟩ := HB.out w1 _ (nv + 1) (sv + (q k m - p k m + 1)) hto ⟨_, hown1, pairSum_snoc nv xs sv _ _ hrow.1 HX.out⟩ (by omega) (hat.elim (fun h => .inl h.symm) (fun h => .inr ⟨gg, rfl, by omega⟩))
              have HF : Hid (Grp w2 (w.heap.size + 2) (w.heap.size + 1) (sumN L k + (m + 1)) (allSum L p q k + rowSum (p k) (q k) (m + 1)) ∧ Below (w.heap.size + 1) (w.alloc (.cells #[.map none] 28)) w2 ∧ w.heap.size + 2 ≤ w2.heap.size) := step_end hgrp2 hbel hto hgrow2 hsz hvl
              clear hgrp2 hto
              have hs1 : w.heap.size ≤ w1.heap.size := Nat.le_trans (by simp; omega) hgrow.size))
          all_goals
            go_wp2
            go_roundw
            case rel => exact ⟨m + 1, by omega, by go_num, HF.out.1, HF.out.2.1, HF.out.2.2⟩
            case measure => simp [intOf]; omega
        · clear hrow old
          go_wp2
          go_roundw
          case rel =>
            have e : m = L k := by omega
            subst e
            exact ⟨k + 1, by omega, by go_num, hgrp, hbel, hsz⟩
          case measure => simp [intOf]; omega
    · have e : k = n := by omega
      subst e
      have hcell : wr.cell? ⟨w.heap.size, 0, none⟩ = some (.map none) := (hbel.cell (p := ⟨w.heap.size, 0, none⟩) (by simp)).trans (by simp)
      have hfro : wr.frozen? ⟨w.heap.size, 0, none⟩ = false := (hbel.frozen (p := ⟨w.heap.size, 0, none⟩) (by simp)).trans (by simp)
      have hset := fun x => World.cell?_setCell_same wr ⟨w.heap.size, 0, none⟩ x hcell
      go_wp2
      refine bodyPost_ret (v := .agg #[.map (some (w.heap.size + 1))]) (by simp [results, Try.results7, go_sem, hset]) rfl ⟨_, _, _, rfl, hgrp.kept (grownBy_setCell _ _ _) (fun j hj => ?_), by omega, ?_⟩
      · cases hj
        exact ⟨by simp, by simp⟩
      · exact ((((Below.refl w.heap.size w).alloc (Nat.le_refl _) _).trans (hbel.mono (by omega))).setCell (by simp) _)

end Go.Proofs.Qxb6619738a
