/-
  FnSummaryPastBySpanStarts: the walk.
-/
import Derived.Test.Qxb6621657aModel
import Derived.Deep.RegionHeld3
namespace Go.Proofs.Qxb6621657a
open Go.RowKit
set_option linter.unusedSimpArgs false

theorem range_below {w1 w2 : World} {H : Nat} {A : List Value} (h : w1.rangeAt H 0 A) (hs : H < w1.heap.size) (hb : Below w1.heap.size w1 w2) : w2.rangeAt H 0 A := fun j v hv =>
  (hb.cell (p := ⟨H, 0 + j, none⟩) hs).trans (h j v hv)

set_option maxRecDepth 100000 in
set_option maxHeartbeats 1600000 in
theorem law7_any (f l b : Int) (z : Nat → Int) (w : World) (hf : -9223372036854775808 ≤ f) (hl : l ≤ 9223372036854775807) (hbb : b ≤ 9223372036854775807) :
    Calls Try.prog 5 #[.int .i64 f, .int .i64 l, .agg (arr z).toArray, .int .i64 b] w fun e w' => e = .returned (.bool true) ∧ Below w.heap.size w w' := by
  by_cases hg : f < b ∧ b ≤ l ∧ 288230376151711744 < l - f
  · obtain ⟨g1, g2, g3⟩ := hg
    have hd : IntKind.u64.wrap (IntKind.u64.wrap l - IntKind.u64.wrap f) = l - f := u64_diff (by omega) (by omega)
    generalize arr z = A
    go_enter Try.func5, Try.ntmps5
    go_upto_region 1 with fail
    have hB := (Below.refl w.heap.size w).alloc (Nat.le_refl _) (.cells A.toArray 31)
    generalize w.alloc (.cells A.toArray 31) = w1 at *
    go_wp2
    go_ret
    exact ⟨rfl, hB⟩
  have h3 : f < b → b ≤ l → l - f ≤ 288230376151711744 := fun h1 h2 => by omega
  have HZ := hide7 (fun w' => zzpast_any f l b z w' hf hl hbb h3)
  have HM := hide7 (fun w' => model_any f l b z w' hf hl hbb h3)
  have hrn := range_new z w
  have hsz : (Try.prog.info? 31).map (·.size) = some (arr z).length := by rw [arr_len]; exact size31
  generalize arr z = A at *
  generalize sumTo z (pc f l b) = s at *
  have HR := hide7 (And.intro hrn hsz)
  clear hrn hsz
  go_enter Try.func5, Try.ntmps5
  go_upto_region 1 with fail
  have hB := (Below.refl w.heap.size w).alloc (Nat.le_refl _) (.cells A.toArray 31)
  have hs : w.heap.size < (w.alloc (.cells A.toArray 31)).heap.size := by simp
  generalize w.alloc (.cells A.toArray 31) = w1 at *
  go_cut [24] (fun v wc => v = .bool false ∧ w1 = wc)
  case first =>
    by_cases c1 : f < b
    · by_cases c2 : b ≤ l
      · have hd : IntKind.u64.wrap (IntKind.u64.wrap l - IntKind.u64.wrap f) = l - f := u64_diff (by omega) (by omega)
        have hd2 : l - f ≤ 288230376151711744 := h3 c1 c2
        go_wp2
        go_meet
        case rel => exact ⟨by simp; omega, rfl⟩
      · go_wp2
        go_meet
        case rel => exact ⟨rfl, rfl⟩
    · go_wp2
      go_meet
      case rel => exact ⟨rfl, rfl⟩
  case rest =>
    obtain ⟨rfl, rfl⟩ := hcut
    have HZ1 := hide7 (show ∀ w', Below w1.heap.size w1 w' → Calls Try.prog 9 #[.int .i64 f, .int .i64 l, .agg A.toArray, .int .i64 b] w' fun e w'' => e = .returned (.int .i64 s) ∧ Below w1.heap.size w1 w'' from
      fun w' hw' => (HZ.out w').mono fun e w'' he => ⟨he.1, hw'.trans (he.2.mono hw'.size)⟩)
    have HM1 := hide7 (show ∀ w', Below w1.heap.size w1 w' → Calls Try.prog 10 #[.int .i64 f, .int .i64 l, .agg A.toArray, .int .i64 b] w' fun e w'' => e = .returned (.int .i64 s) ∧ Below w1.heap.size w1 w'' from
      fun w' hw' => (HM.out w').mono fun e w'' he => ⟨he.1, hw'.trans (he.2.mono hw'.size)⟩)
    have h31 := Try.underlying31
    have hsz := HR.out.2
    have hrg := HR.out.1
    have hb0 := Below.refl w1.heap.size w1
    have hss : (s == s) = true := by simp
    clear HZ HM h3 hg hf hl hbb
    go_upto_region 3 with fail
    refine wp_region_held_drew (S := fun w' => w'.rangeAt w.heap.size 0 A ∧ Below w1.heap.size w1 w') (by kernel_rfl) ⟨hrg, hb0.drew⟩ (fun hHeld => ?_)
    refine wpAnyH_take (i := 0) (oi := _) (v := ?_) rfl (by kernel_rfl) (by kernel_rfl) (by kernel_rfl) (fun _ _ _ h => h) (Or.inl ⟨by rfl, ?y0⟩) (by assumption) ?_
    case y0 => (intro w hSw; go_simp; try with_reducible rfl)
    simp only [List.getElem_toArray, List.getElem_cons_zero, List.getElem_cons_succ, Act.put, List.setIfInBounds_toArray, List.set_cons_zero, List.set_cons_succ]
    refine wpAnyH_take (i := 1) (oi := _) (v := ?_) rfl (by kernel_rfl) (by kernel_rfl) (by kernel_rfl) (fun _ _ _ h => h) (Or.inl ⟨by rfl, ?y1⟩) (by assumption) ?_
    case y1 => (intro w hSw; go_simp; try with_reducible rfl)
    simp only [List.getElem_toArray, List.getElem_cons_zero, List.getElem_cons_succ, Act.put, List.setIfInBounds_toArray, List.set_cons_zero, List.set_cons_succ]
    refine wpAnyH_take (i := 2) (oi := _) (v := _) rfl (by kernel_rfl) (by kernel_rfl) (by kernel_rfl) (fun _ _ _ h => h) (yieldsIf_load_mid (by rfl) _ _ rfl _ _ rfl A _ (fun w' hw' => hw'.1) Try.underlying31 rfl hsz) (by assumption) ?_
    simp only [List.getElem_toArray, List.getElem_cons_zero, List.getElem_cons_succ, Act.put, List.setIfInBounds_toArray, List.set_cons_zero, List.set_cons_succ]
    refine wpAnyH_take (i := 3) (oi := _) (v := ?_) rfl (by kernel_rfl) (by kernel_rfl) (by kernel_rfl) (fun _ _ _ h => h) (Or.inl ⟨by rfl, ?y3⟩) (by assumption) ?_
    case y3 => (intro w hSw; go_simp; try with_reducible rfl)
    simp only [List.getElem_toArray, List.getElem_cons_zero, List.getElem_cons_succ, Act.put, List.setIfInBounds_toArray, List.set_cons_zero, List.set_cons_succ]
    refine wpAnyH_take (i := 5) (oi := _) (v := ?_) rfl (by kernel_rfl) (by kernel_rfl) (by kernel_rfl) (fun _ _ _ h => h) (Or.inl ⟨by rfl, ?y5⟩) (by assumption) ?_
    case y5 => (intro w hSw; go_simp; try with_reducible rfl)
    simp only [List.getElem_toArray, List.getElem_cons_zero, List.getElem_cons_succ, Act.put, List.setIfInBounds_toArray, List.set_cons_zero, List.set_cons_succ]
    refine wpAnyH_take (i := 6) (oi := _) (v := ?_) rfl (by kernel_rfl) (by kernel_rfl) (by kernel_rfl) (fun _ _ _ h => h) (Or.inl ⟨by rfl, ?y6⟩) (by assumption) ?_
    case y6 => (intro w hSw; go_simp; try with_reducible rfl)
    simp only [List.getElem_toArray, List.getElem_cons_zero, List.getElem_cons_succ, Act.put, List.setIfInBounds_toArray, List.set_cons_zero, List.set_cons_succ]
    refine wpAnyH_take (i := 7) (oi := _) (v := _) rfl (by kernel_rfl) (by kernel_rfl) (by kernel_rfl) (fun _ _ _ h => h) (yieldsIf_load_mid (by rfl) _ _ rfl _ _ rfl A _ (fun w' hw' => hw'.1) Try.underlying31 rfl hsz) (by assumption) ?_
    simp only [List.getElem_toArray, List.getElem_cons_zero, List.getElem_cons_succ, Act.put, List.setIfInBounds_toArray, List.set_cons_zero, List.set_cons_succ]
    refine wpAnyH_take (i := 8) (oi := _) (v := ?_) rfl (by kernel_rfl) (by kernel_rfl) (by kernel_rfl) (fun _ _ _ h => h) (Or.inl ⟨by rfl, ?y8⟩) (by assumption) ?_
    case y8 => (intro w hSw; go_simp; try with_reducible rfl)
    simp only [List.getElem_toArray, List.getElem_cons_zero, List.getElem_cons_succ, Act.put, List.setIfInBounds_toArray, List.set_cons_zero, List.set_cons_succ]
    refine wpAnyH_ready (rs := [4]) (by kernel_rfl) (by simp) ?_
    refine AllReadyH.cons (o := _) rfl (fun K hK => ?_) AllReadyH.nil
    go_simp
    refine (HZ1.out _ hHeld.2).mono ?_
    rintro e w9 ⟨rfl, hb9⟩
    go_wp2_with fail
    refine hK.out _ _ ⟨range_below hrg hs hb9, hb9⟩ (fun hHeld => ?_)
    clear hK K
    try simp only [List.getElem_toArray, List.getElem_cons_zero, List.getElem_cons_succ, Act.put, List.setIfInBounds_toArray, List.set_cons_zero, List.set_cons_succ]
    refine wpAnyH_ready (rs := [9]) (by kernel_rfl) (by simp) ?_
    refine AllReadyH.cons (o := _) rfl (fun K hK => ?_) AllReadyH.nil
    go_simp
    refine (HM1.out _ hHeld.2).mono ?_
    rintro e w10 ⟨rfl, hb10⟩
    go_wp2_with fail
    refine hK.out _ _ ⟨range_below hrg hs hb10, hb10⟩ (fun hHeld => ?_)
    clear hK K
    try simp only [List.getElem_toArray, List.getElem_cons_zero, List.getElem_cons_succ, Act.put, List.setIfInBounds_toArray, List.set_cons_zero, List.set_cons_succ]
    refine wpAnyH_take (i := 10) (oi := _) (v := ?_) rfl (by kernel_rfl) (by kernel_rfl) (by kernel_rfl) (fun _ _ _ h => h) (Or.inl ⟨by rfl, ?y10⟩) (by assumption) ?_
    case y10 => (intro w hSw; go_simp; try with_reducible rfl)
    simp only [List.getElem_toArray, List.getElem_cons_zero, List.getElem_cons_succ, Act.put, List.setIfInBounds_toArray, List.set_cons_zero, List.set_cons_succ]
    refine wpAnyH_take (i := 11) (oi := _) (v := ?_) rfl (by kernel_rfl) (by kernel_rfl) (by kernel_rfl) (fun _ _ _ h => h) (Or.inl ⟨by rfl, ?y11⟩) (by assumption) ?_
    case y11 => (intro w hSw; go_simp; try with_reducible rfl)
    simp only [List.getElem_toArray, List.getElem_cons_zero, List.getElem_cons_succ, Act.put, List.setIfInBounds_toArray, List.set_cons_zero, List.set_cons_succ]
    refine wpAnyH_done (by kernel_rfl) ?_ _
    go_wp2
    go_ret
    exact ⟨rfl, hB.trans (hb10.mono (Nat.le_of_lt hs))⟩

end Go.Proofs.Qxb6621657a
