/-
  FnCountsAddSplitsAtAnyCut: the walk.
-/
import Derived.Test.Qxb6619846aCnt
import Derived.Laws.StructEq
namespace Go.Proofs.Qxb6619846a
open Go.RowKit

theorem hid {p : Prop} (h : p) : Hid p := h

/-- a slice of n triples of ints -/
def IsTrips (w : World) (a : Option Addr) (n : Nat) (X Y Z : Nat → Int) : Prop :=
  0 < n → ∃ b off, a = some ⟨b, off, none⟩ ∧ b < w.heap.size ∧ ∀ i, i < n → w.cell? ⟨b, off + i * 3, none⟩ = some (.int .i64 (X i)) ∧ w.cell? ⟨b, off + i * 3 + 1, none⟩ = some (.int .i64 (Y i)) ∧ w.cell? ⟨b, off + i * 3 + 2, none⟩ = some (.int .i64 (Z i))

/-- f a + .. + f (b - 1) -/
def sumFT (f : Nat → Int) (a : Nat) : Nat → Int
  | 0 => 0
  | k + 1 => sumFT f a k + f (a + k)

theorem sumFT_cut (f : Nat → Int) (a b : Nat) : sumFT f 0 (a + b) = sumFT f 0 a + sumFT f a b := by
  induction b with
  | zero => show sumFT f 0 a = sumFT f 0 a + 0; omega
  | succ b ih =>
    show sumFT f 0 (a + b) + f (0 + (a + b)) = sumFT f 0 a + (sumFT f a b + f (a + b))
    rw [ih, Nat.zero_add]
    omega
theorem w_mod (a b : Int) (h : a % 18446744073709551616 = b % 18446744073709551616) : wrap64 a = wrap64 b := by unfold wrap64; omega
theorem w_emod (a : Int) : wrap64 a % 18446744073709551616 = a % 18446744073709551616 := by unfold wrap64; omega
theorem w_add (a b : Int) : wrap64 (wrap64 a + b) = wrap64 (a + b) := w_mod _ _ (by have := w_emod a; omega)
theorem w_add2 (a b : Int) : wrap64 (wrap64 a + wrap64 b) = wrap64 (a + b) := w_mod _ _ (by have := w_emod a; have := w_emod b; omega)

theorem w_in (n : Int) (h : -9223372036854775808 ≤ n ∧ n ≤ 9223372036854775807) : wrap64 n = n := by unfold wrap64; omega

/-- block g holds the start plus the k rows from row j on -/
def Acc (w : World) (g : Nat) (p r f : Int) (X Y Z : Nat → Int) (j k : Nat) : Prop := CntAt w g (wrap64 (p + sumFT X j k)) (wrap64 (r + sumFT Y j k)) (wrap64 (f + sumFT Z j k))

theorem Acc.step {w : World} {g : Nat} {p r f : Int} {X Y Z : Nat → Int} {j k : Nat} (h : CntAt w g (wrap64 (wrap64 (p + sumFT X j k) + X (j + k))) (wrap64 (wrap64 (r + sumFT Y j k) + Y (j + k))) (wrap64 (wrap64 (f + sumFT Z j k) + Z (j + k)))) : Acc w g p r f X Y Z j (k + 1) := by
  rw [w_add, w_add, w_add, Int.add_assoc, Int.add_assoc, Int.add_assoc] at h
  exact h
theorem Acc.start {w : World} {g : Nat} {p r f : Int} (X Y Z : Nat → Int) (j : Nat) (hw : wrap64 p = p ∧ wrap64 r = r ∧ wrap64 f = f) (h : CntAt w g p r f) : Acc w g p r f X Y Z j 0 := by
  show CntAt w g (wrap64 (p + 0)) (wrap64 (r + 0)) (wrap64 (f + 0))
  rw [Int.add_zero, Int.add_zero, Int.add_zero, hw.1, hw.2.1, hw.2.2]
  exact h
theorem CntAt.kept {w w' : World} {g : Nat} {a b c : Int} {row : Option Nat} (h : CntAt w g a b c) (hg : w.grownBy w' row) (hne : some g ≠ row) : CntAt w' g a b c :=
  (hg.block g (Array.getElem?_eq_some_iff.1 h).1 hne).trans h
theorem CntAt.lt {w : World} {g : Nat} {a b c : Int} (h : CntAt w g a b c) : g < w.heap.size := (Array.getElem?_eq_some_iff.1 h).1
theorem Acc.kept {w w' : World} {g : Nat} {p r f : Int} {X Y Z : Nat → Int} {j k : Nat} {row : Option Nat} (h : Acc w g p r f X Y Z j k) (hg : w.grownBy w' row) (hne : some g ≠ row) : Acc w' g p r f X Y Z j k := CntAt.kept h hg hne
theorem CntAt.new (w : World) (a b c : Int) : CntAt (w.alloc (.cells #[.int .i64 a, .int .i64 b, .int .i64 c] 28)) w.heap.size a b c := heap_alloc_new w _

theorem CntAt.cells {w : World} {g : Nat} {a b c : Int} (h : CntAt w g a b c) : w.cell? ⟨g, 0, none⟩ = some (.int .i64 a) ∧ w.cell? ⟨g, 1, none⟩ = some (.int .i64 b) ∧ w.cell? ⟨g, 2, none⟩ = some (.int .i64 c) ∧ g < w.heap.size := by
  refine ⟨?_, ?_, ?_, h.lt⟩ <;> simp [World.cell?, show w.heap[g]? = _ from h]
theorem sum_whole (X : Nat → Int) (p : Int) (k n : Nat) (h : k ≤ n) : wrap64 (wrap64 (p + sumFT X 0 k) + wrap64 (0 + sumFT X k (n - k))) = wrap64 (p + sumFT X 0 n) := by
  obtain ⟨d, rfl⟩ : ∃ d, n = k + d := ⟨n - k, by omega⟩
  rw [w_add2, sumFT_cut, Nat.add_sub_cancel_left]
  congr 1
  omega
theorem final_eq (X : Nat → Int) (p : Int) (n : Nat) : wrap64 (wrap64 (sumFT X 0 n) + p) = wrap64 (p + sumFT X 0 n) := by
  rw [w_add]
  congr 1
  omega

theorem sumFT_head (f : Nat → Int) (a d : Nat) : sumFT f a (d + 1) = f a + sumFT f (a + 1) d := by
  induction d with
  | zero => show 0 + f (a + 0) = f a + 0; rw [Nat.add_zero]; omega
  | succ d ih =>
    show sumFT f a (d + 1) + f (a + (d + 1)) = f a + (sumFT f (a + 1) d + f (a + 1 + d))
    rw [ih, show a + 1 + d = a + (d + 1) by omega]
    omega
theorem sum_back (X : Nat → Int) (j n : Nat) (h : j + 1 ≤ n) : wrap64 (wrap64 (sumFT X (j + 1) (n - (j + 1))) + X j) = wrap64 (sumFT X j (n - j)) := by
  rw [w_add, show n - j = n - (j + 1) + 1 by omega, sumFT_head]
  congr 1
  omega

set_option maxRecDepth 100000 in
set_option maxHeartbeats 3200000 in
theorem cnt_law (p r f : Int) (a : Option Addr) (n c : Nat) (X Y Z : Nat → Int) (k : Int) (w : World) (hp : -9223372036854775808 ≤ p ∧ p ≤ 9223372036854775807) (hr : -9223372036854775808 ≤ r ∧ r ≤ 9223372036854775807) (hf : -9223372036854775808 ≤ f ∧ f ≤ 9223372036854775807)
    (hx : IsTrips w a n X Y Z) :
    Calls Try.prog 4 #[.int .i64 p, .int .i64 r, .int .i64 f, .slice a n c, .int .i64 k] w fun e w' => e = .returned (.bool true) ∧ Below w.heap.size w w' := by
  by_cases hn : n ≤ 1048576
  case neg =>
    go_enter Try.func4, Try.ntmps4
    go_wp2_with fail
    refine (cbytes_any p r f k a n c w false (by simp; omega)).mono ?_
    rintro e w' ⟨rfl, rfl⟩
    go_wp2
    go_ret
    exact ⟨rfl, Below.refl _ _⟩
  by_cases hn2 : (43690 : Int) < n
  · go_enter Try.func4, Try.ntmps4
    go_wp2_with fail
    refine (cbytes_any p r f k a n c w true (by simp; omega)).mono ?_
    rintro e w' ⟨rfl, rfl⟩
    go_wp2
    go_ret
    exact ⟨rfl, Below.refl _ _⟩
  by_cases hk : 0 ≤ k ∧ k ≤ n
  case neg =>
    by_cases hk0 : k < 0
    · go_enter Try.func4, Try.ntmps4
      go_wp2_with fail
      refine (cbytes_any p r f k a n c w true (by simp; omega)).mono ?_
      rintro e w' ⟨rfl, rfl⟩
      go_wp2
      go_ret
      exact ⟨rfl, Below.refl _ _⟩
    · have : (n : Int) < k := by omega
      go_enter Try.func4, Try.ntmps4
      go_wp2_with fail
      refine (cbytes_any p r f k a n c w true (by simp; omega)).mono ?_
      rintro e w' ⟨rfl, rfl⟩
      go_wp2
      go_ret
      exact ⟨rfl, Below.refl _ _⟩
  obtain ⟨kk, rfl⟩ := Int.eq_ofNat_of_zero_le hk.1
  have hkk : kk ≤ n := by omega
  clear hk
  have wp : wrap64 p = p := w_in p hp
  have wr' : wrap64 r = r := w_in r hr
  have wf : wrap64 f = f := w_in f hf
  have HW := hid (And.intro wp (And.intro wr' wf))
  clear wp wr' wf
  go_enter Try.func4, Try.ntmps4
  go_wp2_with fail
  refine (cbytes_any p r f _ a n c w true (by simp; omega)).mono ?_
  rintro e w' ⟨rfl, rfl⟩
  have d1 : decide ((43690 : Int) < (n : Int)) = false := by simp; omega
  have d2 : decide ((kk : Int) < 0) = false := by simp
  have d3 : decide (n < kk) = false := by simp; omega
  go_wp2_with fail
  clear d1 d2 d3
  go_loopw [12] (fun i wr => ∃ t : Nat, t ≤ n ∧ i = .int .i64 t ∧ Acc wr w.heap.size p r f X Y Z 0 t ∧ Below w.heap.size w wr) (fun i _ => n - (intOf i).toNat)
  case atStart => exact ⟨0, Nat.zero_le _, rfl, Acc.start X Y Z 0 HW.out (CntAt.new w p r f), (Below.refl _ _).alloc (Nat.le_refl _) _⟩
  case round =>
    obtain ⟨t, ht, rfl, hacc, hbel⟩ := hrel
    by_cases hlt : t < n
    · obtain ⟨b, off, rfl, hb, hc⟩ := hx (by omega)
      have e0 := (hbel.cell (p := ⟨b, off + t * 3, none⟩) hb).trans (hc t hlt).1
      have e1 := (hbel.cell (p := ⟨b, off + t * 3 + 1, none⟩) hb).trans (hc t hlt).2.1
      have e2 := (hbel.cell (p := ⟨b, off + t * 3 + 2, none⟩) hb).trans (hc t hlt).2.2
      clear hc
      go_wp2_with fail
      refine (row_any (X t) (Y t) (Z t) _).mono ?_
      rintro e w1 ⟨rfl, hg1⟩
      go_wp2_with fail
      refine (zzadd_any w.heap.size _ _ _ (X t) (Y t) (Z t) _ (CntAt.kept hacc hg1 (by simp))).mono ?_
      rintro e w2 ⟨rfl, hc2, hg2⟩
      have hacc2 : Acc w2 w.heap.size p r f X Y Z 0 (t + 1) := Acc.step (by rw [Nat.zero_add]; exact hc2)
      have hbel2 : Below w.heap.size w w2 := (hbel.grown hg1 hbel.size (fun j hj => by cases hj)).grown hg2 (Nat.le_trans hbel.size hg1.size) (fun j hj => by cases hj; exact Nat.le_refl _)
      clear hc2 hacc
      go_wp2
      go_roundw
      case rel => exact ⟨t + 1, by omega, by go_num, hacc2, hbel2⟩
      case measure => simp [intOf]; omega
    · have e : n = t := by omega
      subst e
      have hlt1 := CntAt.lt hacc
      have HA := hid hacc
      clear hacc ht hlt
      go_wp2
      obtain ⟨H1, hH1⟩ : ∃ H1, H1 = wr.heap.size := ⟨_, rfl⟩
      have A2 := Acc.start X Y Z 0 HW.out (CntAt.new wr p r f)
      have A1 := (HA.out).kept (World.grownBy_alloc wr (.cells #[.int .i64 p, .int .i64 r, .int .i64 f] 28) none) (by simp)
      have hbel2 := hbel.alloc (Nat.le_of_lt hlt1) (.cells #[.int .i64 p, .int .i64 r, .int .i64 f] 28)
      clear HA hbel
      rw [← hH1] at A2 hlt1 ⊢
      clear hH1
      go_loopw [14] (fun i wr => ∃ t : Nat, t ≤ kk ∧ i = .int .i64 t ∧ Acc wr w.heap.size p r f X Y Z 0 n ∧ Acc wr H1 p r f X Y Z 0 t ∧ Below w.heap.size w wr) (fun i _ => kk - (intOf i).toNat)
      case atStart => exact ⟨0, Nat.zero_le _, rfl, A1, A2, hbel2⟩
      case round =>
        clear A1 A2 hbel2
        obtain ⟨t, ht, rfl, hacc, hac2, hbel⟩ := hrel
        by_cases hlt : t < kk
        · obtain ⟨b, off, rfl, hb, hc⟩ := hx (by omega)
          have e0 := (hbel.cell (p := ⟨b, off + t * 3, none⟩) hb).trans (hc t (by omega)).1
          have e1 := (hbel.cell (p := ⟨b, off + t * 3 + 1, none⟩) hb).trans (hc t (by omega)).2.1
          have e2 := (hbel.cell (p := ⟨b, off + t * 3 + 2, none⟩) hb).trans (hc t (by omega)).2.2
          clear hc
          go_wp2_with fail
          refine (row_any (X t) (Y t) (Z t) _).mono ?_
          rintro e w1 ⟨rfl, hg1⟩
          go_wp2_with fail
          refine (zzadd_any H1 _ _ _ (X t) (Y t) (Z t) _ (CntAt.kept hac2 hg1 (by simp))).mono ?_
          rintro e w2 ⟨rfl, hc2, hg2⟩
          have hac3 : Acc w2 H1 p r f X Y Z 0 (t + 1) := Acc.step (by rw [Nat.zero_add]; exact hc2)
          have hacc2 := (hacc.kept hg1 (by simp)).kept hg2 (by simp; omega)
          have hbel2 : Below w.heap.size w w2 := (hbel.grown hg1 hbel.size (fun j hj => by cases hj)).grown hg2 (Nat.le_trans hbel.size hg1.size) (fun j hj => by cases hj; omega)
          clear hc2 hacc hac2
          go_wp2
          go_roundw
          case rel => exact ⟨t + 1, by omega, by go_num, hacc2, hac3, hbel2⟩
          case measure => simp [intOf]; omega
        · have e : kk = t := by omega
          subst e
          have hlt2 := CntAt.lt hac2
          have HA := hid hacc
          have HB := hid hac2
          clear hacc hac2 ht hlt
          go_wp2
          obtain ⟨H2, hH2⟩ : ∃ H2, H2 = wr.heap.size := ⟨_, rfl⟩
          have A3 := Acc.start X Y Z kk ⟨w_in 0 (by omega), w_in 0 (by omega), w_in 0 (by omega)⟩ (CntAt.new wr 0 0 0)
          have A1 := (HA.out).kept (World.grownBy_alloc wr (.cells #[.int .i64 0, .int .i64 0, .int .i64 0] 28) none) (by simp)
          have A2 := (HB.out).kept (World.grownBy_alloc wr (.cells #[.int .i64 0, .int .i64 0, .int .i64 0] 28) none) (by simp)
          have hbel2 := hbel.alloc (by omega) (.cells #[.int .i64 0, .int .i64 0, .int .i64 0] 28)
          clear HA HB hbel
          rw [← hH2] at A3 hlt2 ⊢
          clear hH2
          go_loopw [16] (fun i wr => ∃ t : Nat, t ≤ n - kk ∧ i = .int .i64 (kk + t : Nat) ∧ Acc wr w.heap.size p r f X Y Z 0 n ∧ Acc wr H1 p r f X Y Z 0 kk ∧ Acc wr H2 0 0 0 X Y Z kk t ∧ Below w.heap.size w wr) (fun i _ => n - (intOf i).toNat)
          case atStart => exact ⟨0, Nat.zero_le _, rfl, A1, A2, A3, hbel2⟩
          case round =>
            clear A1 A2 A3 hbel2
            obtain ⟨t, ht, rfl, hacc, hac2, hac3, hbel⟩ := hrel
            by_cases hlt : kk + t < n
            · obtain ⟨b, off, rfl, hb, hc⟩ := hx (by omega)
              have e0 := (hbel.cell (p := ⟨b, off + (kk + t) * 3, none⟩) hb).trans (hc (kk + t) (by omega)).1
              have e1 := (hbel.cell (p := ⟨b, off + (kk + t) * 3 + 1, none⟩) hb).trans (hc (kk + t) (by omega)).2.1
              have e2 := (hbel.cell (p := ⟨b, off + (kk + t) * 3 + 2, none⟩) hb).trans (hc (kk + t) (by omega)).2.2
              clear hc
              go_wp2_with fail
              refine (row_any (X (kk + t)) (Y (kk + t)) (Z (kk + t)) _).mono ?_
              rintro e w1 ⟨rfl, hg1⟩
              go_wp2_with fail
              refine (zzadd_any H2 _ _ _ (X (kk + t)) (Y (kk + t)) (Z (kk + t)) _ (CntAt.kept hac3 hg1 (by simp))).mono ?_
              rintro e w2 ⟨rfl, hc2, hg2⟩
              have hac4 : Acc w2 H2 0 0 0 X Y Z kk (t + 1) := Acc.step hc2
              have hacc2 := (hacc.kept hg1 (by simp)).kept hg2 (by simp; omega)
              have hac22 := (hac2.kept hg1 (by simp)).kept hg2 (by simp; omega)
              have hbel2 : Below w.heap.size w w2 := (hbel.grown hg1 hbel.size (fun j hj => by cases hj)).grown hg2 (Nat.le_trans hbel.size hg1.size) (fun j hj => by cases hj; omega)
              clear hc2 hacc hac2 hac3
              go_wp2
              go_roundw
              case rel => exact ⟨t + 1, by omega, by go_num, hacc2, hac22, hac4, hbel2⟩
              case measure => simp [intOf]; omega
            · have e : n - kk = t := by omega
              subst e
              clear ht hlt
              have hsx := sum_whole X p kk n hkk
              have hsy := sum_whole Y r kk n hkk
              have hsz := sum_whole Z f kk n hkk
              obtain ⟨r0, r1, r2, _⟩ := CntAt.cells hac3
              unfold Acc at hacc hac2
              have F1 := hid (And.intro (final_eq X p n) (And.intro (final_eq Y r n) (final_eq Z f n)))
              generalize wrap64 (0 + sumFT X kk (n - kk)) = rx at *
              generalize wrap64 (0 + sumFT Y kk (n - kk)) = ry at *
              generalize wrap64 (0 + sumFT Z kk (n - kk)) = rz at *
              generalize wrap64 (p + sumFT X 0 kk) = lx at *
              generalize wrap64 (r + sumFT Y 0 kk) = ly at *
              generalize wrap64 (f + sumFT Z 0 kk) = lz at *
              generalize wrap64 (p + sumFT X 0 n) = tx at *
              generalize wrap64 (r + sumFT Y 0 n) = ty at *
              generalize wrap64 (f + sumFT Z 0 n) = tz at *
              have HS := hid (And.intro hsx (And.intro hsy hsz))
              clear hsx hsy hsz hac3
              go_wp2_with fail
              refine (zzadd_any H1 _ _ _ rx ry rz _ hac2).mono ?_
              rintro e w3 ⟨rfl, hc3, hg3⟩
              rw [HS.out.1, HS.out.2.1, HS.out.2.2] at hc3
              have hc1 := CntAt.kept hacc hg3 (by simp; omega)
              have hbel3 : Below w.heap.size w w3 := hbel.grown hg3 hbel.size (fun j hj => by cases hj; omega)
              obtain ⟨l0, l1, l2, _⟩ := CntAt.cells hc3
              obtain ⟨t0, t1, t2, _⟩ := CntAt.cells hc1
              clear hacc hac2 hbel r0 r1 r2 hc3 hc1 hg3
              go_wp2_with fail
              go_loop [17, 18, 19, 20] (fun x y z i => ∃ t : Nat, t ≤ n ∧ i = .int .i64 ((t : Int) - 1) ∧ x = .int .i64 (wrap64 (sumFT X t (n - t))) ∧ y = .int .i64 (wrap64 (sumFT Y t (n - t))) ∧ z = .int .i64 (wrap64 (sumFT Z t (n - t)))) (fun _ _ _ i => (intOf i + 1).toNat)
              case atStart => exact ⟨n, Nat.le_refl _, rfl, by simp [sumFT, wrap64], by simp [sumFT, wrap64], by simp [sumFT, wrap64]⟩
              case round =>
                obtain ⟨t, ht, rfl, rfl, rfl, rfl⟩ := hrel
                cases t with
                | zero =>
                  have hn0 : n - 0 = n := Nat.sub_zero n
                  rw [hn0]
                  have i0 : ((0 : Nat) : Int) - 1 = -1 := rfl
                  rw [i0]
                  clear i0 hn0
                  have g1 := F1.out.1
                  have g2 := F1.out.2.1
                  have g3 := F1.out.2.2
                  generalize wrap64 (sumFT X 0 n) = sx at *
                  generalize wrap64 (sumFT Y 0 n) = sy at *
                  generalize wrap64 (sumFT Z 0 n) = sz at *
                  have q1 : (tx == wrap64 (sx + p)) = true := by simp [g1]
                  have q2 : (ty == wrap64 (sy + r)) = true := by simp [g2]
                  have q3 : (tz == wrap64 (sz + f)) = true := by simp [g3]
                  clear g1 g2 g3
                  go_wp2
                  go_ret
                  exact ⟨rfl, hbel3⟩
                | succ j =>
                  have ij : ((j + 1 : Nat) : Int) - 1 = (j : Int) := by omega
                  rw [ij]
                  clear ij
                  obtain ⟨b, off, rfl, hb, hc⟩ := hx (by omega)
                  have e0 := (hbel3.cell (p := ⟨b, off + j * 3, none⟩) hb).trans (hc j (by omega)).1
                  have e1 := (hbel3.cell (p := ⟨b, off + j * 3 + 1, none⟩) hb).trans (hc j (by omega)).2.1
                  have e2 := (hbel3.cell (p := ⟨b, off + j * 3 + 2, none⟩) hb).trans (hc j (by omega)).2.2
                  clear hc
                  have HJ := hid (And.intro (sum_back X j n ht) (And.intro (sum_back Y j n ht) (sum_back Z j n ht)))
                  generalize wrap64 (sumFT X (j + 1) (n - (j + 1))) = sx at *
                  generalize wrap64 (sumFT Y (j + 1) (n - (j + 1))) = sy at *
                  generalize wrap64 (sumFT Z (j + 1) (n - (j + 1))) = sz at *
                  go_wp2
                  go_round
                  case rel => exact ⟨j, by omega, rfl, by rw [← HJ.out.1], by rw [← HJ.out.2.1], by rw [← HJ.out.2.2]⟩
                  case measure => simp [intOf]

end Go.Proofs.Qxb6619846a
