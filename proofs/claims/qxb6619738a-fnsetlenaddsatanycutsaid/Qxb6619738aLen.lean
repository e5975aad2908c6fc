/-
  (Set).Len: the walk.
-/
import Derived.Test.Qxb6619738aRuns
import Derived.Deep.AppendLies
namespace Go.Proofs.Qxb6619738a
open Go.RowKit Go.ChangeMaps Go.MapKept Go.Maps
open Go.WideElems (Fit rd rg pl rd_val rd_key rg_of)

theorem keyOf3_inv (key : Value) (kl : Lit) (h : keyOf Try.prog 3 key = some kl) : ∃ x : Int, key = Value.int .i64 x := by
  obtain ⟨x, rfl, _⟩ := Maps.keyOf_int_inv Try.underlying3 h
  exact ⟨x, rfl⟩

/-- the reader that a range goes by: what it reads owns its row in w -/
theorem reader (w : World) (base N : Nat) : ∃ R : Value → Option (DataW Unit × List MemPlace), (∀ u n s, OwnRuns w base u n s → n ≤ N → R u = some (.lit (.int .i64 s), [])) ∧
    ∀ u y, R u = some y → ∃ n s, OwnRuns w base u n s ∧ n ≤ N ∧ y = (.lit (.int .i64 s), []) := by
  classical
  refine ⟨fun u => if h : ∃ s, ∃ n, OwnRuns w base u n s ∧ n ≤ N then some (.lit (.int .i64 (Classical.choose h)), []) else none, fun u n s ho hn => ?_, fun u y hy => ?_⟩
  · have hex : ∃ s, ∃ n, OwnRuns w base u n s ∧ n ≤ N := ⟨s, n, ho, hn⟩
    obtain ⟨m, hm, _⟩ := Classical.choose_spec hex
    simp only [dif_pos hex, (hm.unique ho).2]
  · by_cases hex : ∃ s, ∃ n, OwnRuns w base u n s ∧ n ≤ N
    · simp only [dif_pos hex, Option.some.injEq] at hy
      obtain ⟨m, hm, hn⟩ := Classical.choose_spec hex
      exact ⟨m, _, hm, hn, hy.symm⟩
    · simp only [dif_neg hex] at hy
      cases hy

/-- what is still to come, when an entry has come -/
theorem left_step {w : World} {R : Value → Option (DataW Unit × List MemPlace)} {b r N cnt : Nat} {l : List (Lit × DataW Unit)} {left : Lit → Bool} (h : w.ranges Try.prog 3 R b r N (.map l) left cnt) {kl : Lit} {d : DataW Unit} (hl : left kl = true) (hat : ∀ zd, (DataW.map l).atKey kl zd = d) :
    totLeft (fun z => left z && !z.sameKey kl) l = totLeft left l - litOf d := by
  have hown := h.owns
  obtain ⟨es0, e0, hpw, hk⟩ := hown.entries law3
  cases e0
  obtain ⟨es, clock, since, seen, c0, hb, F, _, hD, _, _, _, _, hl2, _⟩ := h
  obtain ⟨x, hx, rfl⟩ := hl2 kl hl
  have hD' : l = (es.toList.map (rg Try.prog 3 R)).foldr DataW.insert [] := by injection hD
  have hm : rg Try.prog 3 R x ∈ l := by rw [hD']; exact mem_sorted.2 (List.mem_map.2 ⟨x, hx, rfl⟩)
  have ha := (WideShapes.atKey_sorted (es.toList.map (rg Try.prog 3 R)) (Maps.fit_rising law3 F) (rg Try.prog 3 R x).1 (hk _ hm)).2 (rg Try.prog 3 R x) (List.mem_map.2 ⟨x, hx, rfl⟩) rfl
  have e1 : d = (rg Try.prog 3 R x).2 := by rw [← hat .nil, hD']; exact ha .nil
  rw [e1]
  exact totLeft_strike left l hpw _ hm (hk _ hm) hl

theorem rowSum_succ (p q : Nat → Int) (n : Nat) : rowSum p q (n + 1) = rowSum p q n + (q n - p n + 1) := rfl

/-- one more pair onto the count -/
theorem acc_step (A x y : Int) : wrap64 (wrap64 A + wrap64 (wrap64 (x - y) + 1)) = wrap64 (A + (x - y + 1)) := by
  refine wrap64_mod _ _ ?_
  have h1 := wrap64_emod A
  have h2 := wrap64_emod (wrap64 (x - y) + 1)
  have h3 := wrap64_emod (x - y)
  omega

/-- a slice value's three parts -/
structure Sl where
  a : Option Addr
  n : Nat
  cap : Nat
def Sl.val (c : Sl) : Value := .slice c.a c.n c.cap

set_option maxRecDepth 100000 in
set_option maxHeartbeats 1600000 in
theorem len_any (base b N : Nat) (T : Int) (w : World) (h : Grp w base b N T) (hN : N ≤ 4000000) :
    Calls Try.prog 8 #[.agg #[.map (some b)]] w fun e w' => e = .returned (.int .i64 (wrap64 T)) ∧ Below w.heap.size w w' := by
  have hblt := h.lt
  obtain ⟨R0, es, clock, hb, F0, hs, hbb, hr, hap, hT⟩ := h
  obtain ⟨R, hR1, hR2⟩ := reader w base N
  obtain ⟨F, hmap, hpl0⟩ := F0.stay (R' := R) (fun x hx z hz => by
    obtain ⟨n, s, ho, hn, h3⟩ := hr x hx
    rw [h3] at hz
    cases hz
    exact hR1 _ _ _ ho hn)
  rw [← hmap] at hT
  obtain ⟨l, hl⟩ : ∃ l, l = (es.toList.map (rg Try.prog 3 R)).foldr DataW.insert [] := ⟨_, rfl⟩
  have hTl : T = tot l := by rw [hT, hl]; exact (tot_perm (WideShapes.sorted_perm _)).symm
  have hown : w.ownsMap Try.prog 3 R b N (.map l) := ⟨es, clock, hb, F, hs, by rw [hl]⟩
  clear hl hT hmap hpl0 F F0 hr hap hs R0
  have HT : Hid (T = tot l) := hTl
  have HR : Hid (∀ u y, R u = some y → ∃ n s, OwnRuns w base u n s ∧ n ≤ N ∧ y = (.lit (.int .i64 s), [])) := hR2
  clear hTl hR1 hb
  have e1 : ∀ o, (w.alloc o).heap.size = w.heap.size + 1 := by simp
  go_enter Try.func8, Try.ntmps8
  go_wp2_with (first
    | (at_range; refine wpList_range_own _ rfl _ 26 rfl 3 35 law3 Try.underlying26 _ b N _ rfl (hown.alloc _) ?_; intro w0 hrg0 hg0 hs0)
    | go_in)
  go_frame
  rw [e1] at hrg0 hs0 ⊢
  clear e1 hR2
  go_loopw [3] (fun n wr => ∃ (left : Lit → Bool) (cnt : Nat), wr.ranges Try.prog 3 R b (w.heap.size + 1) N (.map l) left cnt ∧ n = .int .i64 (wrap64 (T - totLeft left l)) ∧ Below w.heap.size w wr)
    (fun _ wr => wr.rangeLeft b (w.heap.size + 1))
  case atStart =>
    refine ⟨_, _, hrg0, ?_, ((Below.refl _ _).alloc (Nat.le_refl _) _).grown hg0 (by simp) (fun j hj => by cases hj)⟩
    obtain ⟨es0, e0, _, hk⟩ := hown.entries law3
    cases e0
    rw [totLeft_all _ l (fun p hp => List.any_eq_true.2 ⟨p, hp, WideAt.sameKey_self (hk p hp)⟩), HT.out, Int.sub_self]
    simp [wrap64]
  case round =>
    obtain ⟨left, cnt, hrg, rfl, hnx⟩ := hrel
    go_wp2_with (first
      | (at_next; refine wpList_next_ranges _ rfl _ rfl 3 law3 R (Value.int .i64) Sl.val keyOf3_inv (fun v y hv => by obtain ⟨n, s, ho, _, _⟩ := HR.out v y hv; obtain ⟨_, _, ⟨a, cap, hv, _⟩, _⟩ := ho.read; exact ⟨⟨a, n, cap⟩, hv⟩) b (w.heap.size + 1) N _ _ _ rfl hrg ?_ ?_)
      | go_in)
    · intro hc0 hl0
      go_wp2
      go_ret
      rw [totLeft_none left l hl0, Int.sub_zero]
      exact ⟨rfl, hnx⟩
    · intro x c kl d pl0 w1 cnt1 hkey hlk hRv hat hrg1 hlt hg1 hs1 hen
      obtain ⟨n, s, ho, hn, hd⟩ := HR.out _ _ hRv
      obtain ⟨p, q, ⟨a, cap, hc, hrow⟩, hsum⟩ := ho.read
      obtain ⟨ca, cn, ccap⟩ := c
      simp only [Sl.val, Value.slice.injEq] at hc
      obtain ⟨rfl, rfl, rfl⟩ := hc
      have hst := left_step hrg hlk hat
      simp only [Prod.mk.injEq] at hd
      have hd1 : litOf d = s := by rw [hd.1]; rfl
      rw [hd1] at hst
      have HH : Hid (totLeft (fun z => left z && !z.sameKey kl) l = totLeft left l - s ∧ s = rowSum p q cn) := ⟨hst, hsum⟩
      have HR1 : Hid (w1.ranges Try.prog 3 R b (w.heap.size + 1) N (.map l) (fun z => left z && !z.sameKey kl) cnt1) := hrg1
      have hb1 : Below w.heap.size w w1 := hnx.grown hg1 hnx.size (fun j hj => by cases hj; exact Nat.le_succ _)
      simp only [Sl.val] at hen ⊢
      clear hst hsum hd hd1 hat hRv hlk hkey hrg1 ho
      have hrow1 : 0 < cn → ∃ b off, ca = some ⟨b, off, none⟩ ∧ b < w.heap.size ∧ ∀ i, i < cn → w1.cell? ⟨b, off + i * 2, none⟩ = some (.int .i64 (p i)) ∧ w1.cell? ⟨b, off + i * 2 + 1, none⟩ = some (.int .i64 (q i)) := fun h0 => by
        obtain ⟨b, off, e, hlt, hc⟩ := hrow h0
        exact ⟨b, off, e, hlt, fun i hi => ⟨(hb1.cell (p := ⟨b, off + i * 2, none⟩) hlt).trans (hc i hi).1, (hb1.cell (p := ⟨b, off + i * 2 + 1, none⟩) hlt).trans (hc i hi).2⟩⟩
      clear hrow
      generalize hA : T - totLeft left l = A
      have HA : Hid (T - totLeft left l = A) := hA
      clear hA
      go_wp2
      go_loopw [3, 17] (fun m i w2 => ∃ k : Nat, k ≤ cn ∧ i = .int .i64 k ∧ m = .int .i64 (wrap64 (A + rowSum p q k)) ∧ w1.grownBy w2 none) (fun _ i _ => cn - (intOf i).toNat)
      case atStart => exact ⟨0, Nat.zero_le _, rfl, by simp [rowSum, sumZ], ⟨rfl, rfl, rfl, Nat.le_refl _, fun _ _ _ => rfl⟩⟩
      case round =>
        obtain ⟨k, hk, rfl, rfl, hgk⟩ := hrel
        by_cases hlk : k < cn
        · obtain ⟨g, off, rfl, hgl, hc⟩ := hrow1 (by omega)
          have hw1 : w.heap.size ≤ w1.heap.size := hb1.size
          have c1 : wr.cell? ⟨g, off + k * 2, none⟩ = some (.int .i64 (p k)) := (hgk.cell_far ⟨g, off + k * 2, none⟩ (by simp; omega) (by simp)).trans (hc k hlk).1
          have c2 : wr.cell? ⟨g, off + k * 2 + 1, none⟩ = some (.int .i64 (q k)) := (hgk.cell_far ⟨g, off + k * 2 + 1, none⟩ (by simp; omega) (by simp)).trans (hc k hlk).2
          clear hc
          have HS : Hid (wrap64 (wrap64 (A + rowSum p q k) + wrap64 (wrap64 (q k - p k) + 1)) = wrap64 (A + rowSum p q (k + 1))) := by
            show _ = _
            rw [acc_step, rowSum_succ, Int.add_assoc]
          generalize A + rowSum p q k = B at *
          go_wp2
          go_roundw
          case rel =>
            exact ⟨k + 1, by omega, by go_num, by rw [← HS.out], hgk.trans (World.grownBy_alloc wr _ _)⟩
          case measure => simp [intOf]; omega
        · have e : k = cn := by omega
          subst e
          have hrg2 := HR1.out.kept hgk (by simp) (by simp)
          have HE : Hid (wrap64 (A + rowSum p q k) = wrap64 (T - totLeft (fun z => left z && !z.sameKey kl) l)) := by
            show _ = _
            rw [HH.out.1, ← HH.out.2, ← HA.out]
            congr 1
            omega
          generalize A + rowSum p q k = B at *
          have HR2 : Hid (wr.ranges Try.prog 3 R b (w.heap.size + 1) N (.map l) (fun z => left z && !z.sameKey kl) cnt1) := hrg2
          clear hrg2
          go_wp2
          go_roundw
          case rel => exact ⟨_, cnt1, HR2.out, by rw [← HE.out], hb1.grown hgk hb1.size (fun j hj => by cases hj)⟩
          case measure => rw [HR2.out.left_eq, hrg.left_eq]; exact hlt
end Go.Proofs.Qxb6619738a
