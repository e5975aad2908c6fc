/-
  FnNamesNumberOnAWellFormedTable: the walk.
-/
import Derived.Test.Qxb6621657aTail
import Derived.Deep.DeepCutAuto
import Derived.Deep.LoopGhost
import Derived.Deep.CutBlock
namespace Go.Proofs.Qxb6621657a
open Go.RowKit Go.Maps Go.ChangeMaps

/-- a hint that number may be handed at a table of d names -/
def okLike (l : Int) (d : Nat) : Prop := l = -1 ∨ ∃ j : Nat, l = j ∧ j < d

theorem make_hint (n : Nat) (x : World) : (Instr.makeMap 25 (some (.int .i64 (n : Int)))).run Try.prog x = .ok (.map (some x.heap.size)) (x.alloc (.map #[] 0)) := by
  simp [Instr.makeMap, run_underlying Try.underlying25, asInt, asIntOf, go_sem]

theorem lst_distinct {L : ByteArray → Int × Bool} {ss : Nat → ByteArray} {n : Nat} (h : ∀ j : Nat, j < n → L (ss j) = ((j : Int), true)) : ∀ k, k < n → ss k ∉ lst ss k := by
  intro k hk hin
  simp only [lst, List.mem_map, List.mem_range] at hin
  obtain ⟨j, hj, e⟩ := hin
  have h1 := h j (by omega)
  rw [e, h k hk] at h1
  simp only [Prod.mk.injEq, and_true] at h1
  omega

/-- .. while it is filled -/
def Fill (w1 wr : World) (ms : List ByteArray) : Prop := Below w1.heap.size w1 wr ∧ ∃ D, wr.ownsMap Try.prog 9 (plainElem Try.prog 21) w1.heap.size ms.length D ∧ TD D ms

set_option maxRecDepth 100000 in
set_option maxHeartbeats 6400000 in
theorem table_law (r0 : Option Nat) (a1 : Option Addr) (c1 n cnt : Nat) (ss : Nat → ByteArray) (name : ByteArray) (like : Int) (L : ByteArray → Int × Bool) (w : World) (hmap : IsMapIn w (.map r0) cnt L) (hr0 : r0 = none → cnt = 0) (h1 : IsStrs w a1 n ss)
    (hsr : ∀ i, i < n → (ss i).size ≤ 140737488355328) (hlk : -2147483648 ≤ like ∧ like ≤ 2147483647) :
    Calls Try.prog 4 #[.map r0, .slice a1 n c1, .string name, .int .i32 like] w fun e w' => e = .returned (.bool true) ∧ Below w.heap.size w w' := by
  have hlm := hmap.1
  by_cases g1 : (4096 : Int) < cnt
  · go_enter Try.func4, Try.ntmps4
    go_wp2
    go_ret
    exact ⟨rfl, Below.refl _ _⟩
  by_cases g2 : (4096 : Int) < n
  · go_enter Try.func4, Try.ntmps4
    go_wp2
    go_ret
    exact ⟨rfl, Below.refl _ _⟩
  by_cases g3 : (1048576 : Int) < name.size
  · go_enter Try.func4, Try.ntmps4
    go_wp2
    go_ret
    exact ⟨rfl, Below.refl _ _⟩
  have d1 : decide ((4096 : Int) < (cnt : Int)) = false := by simp; omega
  have d2 : decide ((4096 : Int) < (n : Int)) = false := by simp; omega
  have d3 : decide ((1048576 : Int) < (name.size : Int)) = false := by simp; omega
  go_enter Try.func4, Try.ntmps4
  go_wp2_with fail
  clear d1 d2 d3 hlm
  go_loop [9, 10] (fun b i => ∃ k : Nat, k ≤ n ∧ i = .int .i64 k ∧ (∀ j, j < k → (ss j).size ≤ 1048576) ∧ ∃ x : Int, 0 ≤ x ∧ x ≤ 1081344 ∧ b = .int .i64 x) (fun _ i => n - (intOf i).toNat)
  case atStart => exact ⟨0, Nat.zero_le _, rfl, fun j hj => absurd hj (Nat.not_lt_zero _), name.size + 8 * n, by omega, by omega, by go_num⟩
  case round =>
    obtain ⟨k, hk, rfl, hall, x, hx0, hx1, rfl⟩ := hrel
    by_cases hlt : k < n
    · obtain ⟨b, off, rfl, _, hc⟩ := h1 (by omega)
      have c1 := (hc k hlt).1
      have hsk := hsr k hlt
      have HA := hide hall
      clear hc hall
      by_cases hbig : (1048576 : Int) < x + (ss k).size
      · go_wp2
        go_ret
        exact ⟨rfl, Below.refl _ _⟩
      · have HS := hide (show ∀ j, j < k + 1 → (ss j).size ≤ 1048576 from fun j hj => by
          by_cases e : j = k
          · subst e; omega
          · exact HA.out j (by omega))
        go_wp2
        go_round
        case rel => exact ⟨k + 1, by omega, by go_num, HS.out, x + (ss k).size, by omega, by omega, by go_num⟩
        case measure => simp [intOf]; omega
    · have e : n = k := by omega
      subst e
      have HSZ := hide hall
      clear hall hk hlt hsr
      have hlm := hmap.1
      by_cases hcn : n = cnt
      case neg =>
        have : ((cnt : Int) != (n : Int)) = true := by simp; omega
        go_wp2
        go_ret
        exact ⟨rfl, Below.refl _ _⟩
      subst hcn
      have hnn : ((n : Int) != (n : Int)) = false := by simp
      go_wp2_with fail
      clear hnn hlm g1
      go_loop [11] (fun i => ∃ k : Nat, k ≤ n ∧ i = .int .i64 k ∧ ∀ j : Nat, j < k → L (ss j) = ((j : Int), true)) (fun i => n - (intOf i).toNat)
      case atStart => exact ⟨0, Nat.zero_le _, rfl, fun j hj => absurd hj (Nat.not_lt_zero _)⟩
      case round =>
        obtain ⟨k, hk, rfl, hall⟩ := hrel
        by_cases hlt : k < n
        · obtain ⟨b, off, rfl, _, hc⟩ := h1 (by omega)
          have e1 := (hc k hlt).1
          obtain ⟨hl, hl1, hl2⟩ := hmap.2 (ss k) (hc k hlt).2
          have HA := hide hall
          clear hc hall
          obtain ⟨⟨lc, lok⟩, hP⟩ : ∃ y, y = L (ss k) := ⟨_, rfl⟩
          rw [← hP] at hl hl1 hl2
          simp only at hl hl1 hl2
          have HP := hide hP
          clear hP
          cases lok with
          | false =>
            go_wp2
            go_ret
            exact ⟨rfl, Below.refl _ _⟩
          | true =>
            by_cases hlck : lc = (k : Int)
            · have hq : (lc != (k : Int)) = false := by simp [hlck]
              have HS := hide (show ∀ j : Nat, j < k + 1 → L (ss j) = ((j : Int), true) from fun j hj => by
                by_cases e : j = k
                · subst e; rw [← HP.out, hlck]
                · exact HA.out j (by omega))
              clear hlck
              go_wp2
              go_round
              case rel => exact ⟨k + 1, by omega, by go_num, HS.out⟩
              case measure => simp [intOf]; omega
            · have hq : (lc != (k : Int)) = true := by simp [hlck]
              clear hlck
              go_wp2
              go_ret
              exact ⟨rfl, Below.refl _ _⟩
        · have e : n = k := by omega
          subst e
          have HLS := hide hall
          clear hall hk hlt
          go_upto_region 18 with fail
          by_cases hok : okLike like n
          case neg =>
            have hz0 : like ≠ -1 ∧ (like < 0 ∨ (n : Int) ≤ like) := by
              constructor
              · exact fun e => hok (Or.inl e)
              · by_cases hneg : like < 0
                · exact Or.inl hneg
                · refine Or.inr ?_
                  obtain ⟨j, hj⟩ := Int.eq_ofNat_of_zero_le (show 0 ≤ like by omega)
                  have : ¬ j < n := fun h => hok (Or.inr ⟨j, hj, h⟩)
                  omega
            obtain ⟨hl1, hl2⟩ := hz0
            have hl1b : (like != -1) = true := by simp [hl1]
            clear hl1 hok
            rcases hl2 with hl2 | hl2
            · go_wp2
              go_ret
              exact ⟨rfl, Below.refl _ _⟩
            · by_cases hneg : like < 0
              · go_wp2
                go_ret
                exact ⟨rfl, Below.refl _ _⟩
              · go_wp2
                go_ret
                exact ⟨rfl, Below.refl _ _⟩
          have HO := hide hok
          go_cut [111] (fun v wc => v = .bool false ∧ w = wc)
          case first =>
            rcases hok with rfl | ⟨j, rfl, hj⟩
            · go_wp2
              go_meet
              case rel => exact ⟨rfl, rfl⟩
            · have hne : ((j : Int) != -1) = true := by simp
              have hd1 : decide ((j : Int) < 0) = false := by simp
              have hd2 : decide (n ≤ j) = false := by simp; omega
              go_wp2
              go_meet
              case rel => exact ⟨by first | rfl | simp [hd2], rfl⟩
          case rest =>
            obtain ⟨rfl, rfl⟩ := hcut
            clear hok
            go_wp2_with fail
            refine (clone_any a1 c1 n ss w h1 (by omega)).mono ?_
            rintro e w1 ⟨oa, ocap, rfl, hold, hgo⟩
            have hB1 : Below w.heap.size w w1 := (Below.refl _ _).grown hgo (Nat.le_refl _) (fun j hj => by cases hj)
            have hm2 := fun x => run_neq_map_nil (P := Try.prog) x 25 9 21 r0 Try.underlying25
            have HOLD := hide (And.intro hold hgo)
            clear hold hgo
            have HD := hide (lst_distinct HLS.out)
            have HMP := hide hmap
            clear hmap
            go_upto_if 115 with fail
            clear hm2
            go_cut [15] (fun v w2 => ∃ r, v = .map r ∧ MapMade w1 w2 r (lst ss n))
            case first =>
              as_aux_lemma =>
              cases r0 with
              | none =>
                have e0 := hide (hr0 rfl)
                clear hr0
                go_wp2
                go_meet
                case rel => exact ⟨none, rfl, Below.refl _ _, Or.inl ⟨rfl, by rw [e0.out]; rfl⟩⟩
              | some bq =>
                have hmm := make_hint n
                go_wp2
                clear hmm
                go_loopg [16] n (fun g3 i wr => ∃ k : Nat, k ≤ n ∧ g3 = n - k ∧ i = .int .i64 k ∧ Fill w1 wr (lst ss k))
                case atStart => exact ⟨0, Nat.zero_le _, rfl, rfl, (Below.refl _ _).alloc (Nat.le_refl _) _, .map [], World.ownsMap_made _ _ _ _, TD.nil⟩
                case round =>
                  obtain ⟨k, hk, hg3, rfl, hbf, D, hown, hTD⟩ := hrel
                  by_cases hlt : k < n
                  · obtain ⟨b, off, rfl, hb, hc⟩ := h1 (by omega)
                    have e1 := (hbf.cell (p := ⟨b, off + k, none⟩) (Nat.lt_of_lt_of_le hb hB1.size)).trans ((hB1.cell (p := ⟨b, off + k, none⟩) hb).trans (hc k hlt).1)
                    have hkey := keyOf_kof (hc k hlt).2
                    have hnew := HD.out k hlt
                    have htd := hown.tidy law9
                    have HF := hide (show TD (D.put (kof (ss k)) (.lit (.int .i32 (k : Nat)))) (lst ss (k + 1)) by
                      have := hTD.put htd hnew
                      rw [lst_len] at this
                      rw [lst_succ]
                      exact this)
                    rw [lst_len] at hown
                    clear hc hTD htd hnew
                    go_wp2_with (first
                      | (at_mapUpdate; refine wpList_mapUpdate_own _ rfl _ _ _ 25 rfl 9 21 law9 Try.underlying25 _ w1.heap.size k _ rfl hown (by unfold maxLen; omega) _ _ _ rfl rfl hkey _ [] (plainElem_int Try.underlying21 (WalkArith.wf_i32 (by omega))) ?_; intro w3 hown3 hgrow3)
                      | go_in)
                    go_roundg (n - (k + 1))
                    case measure => omega
                    case rel => exact ⟨k + 1, by omega, rfl, by go_num, hbf.grown hgrow3 hbf.size (fun j hj => by cases hj; exact Nat.le_refl _), _, by rw [lst_len]; exact hown3, HF.out⟩
                  · have e : n = k := by omega
                    subst e
                    clear hk hlt
                    go_wp2
                    go_meet
                    case rel => exact ⟨_, rfl, hbf, Or.inr ⟨_, D, rfl, Nat.le_refl _, hown, hTD⟩⟩
            case rest =>
              as_aux_lemma =>
              obtain ⟨r, rfl, hMM⟩ := hcut
              go_wp2_with fail
              refine (clone_any a1 c1 n ss _ (h1.below (hB1.trans (hMM.1.mono hB1.size))) (by omega)).mono ?_
              rintro e w3 ⟨sa, scap, rfl, hrow3, hg3⟩
              have HT3 := hide (tbl_made HD.out HSZ.out hMM hrow3 hg3)
              have hB3 := below_made hMM hg3
              have HS := hide (owns_isStrs HOLD.out.1 HSZ.out)
              clear hrow3 hg3 hMM HOLD HD HLS HMP h1 hr0
              go_upto_block 6 with fail
              go_cut [17, 18] (fun v f wc => ∃ W fd, v = .int .i32 (W : Nat) ∧ f = .bool fd ∧ Hit ss n name W fd ∧ w3 = wc)
              case first =>
                go_wp2_with fail
                go_loopg [17, 18, 19] n (fun gi v f i wi => ∃ k : Nat, k ≤ n ∧ gi = n - k ∧ v = .int .i32 (n : Nat) ∧ f = .bool false ∧ i = .int .i64 k ∧ name ∉ lst ss k ∧ w3 = wi)
                case atStart => exact ⟨0, Nat.zero_le _, rfl, by go_num, rfl, rfl, by simp [lst], rfl⟩
                case round =>
                  obtain ⟨k, hk, hgi, rfl, rfl, rfl, hno, rfl⟩ := hrel
                  have HN := hide hno
                  clear hno
                  by_cases hlt : k < n
                  · obtain ⟨b, off, rfl, hb, hc⟩ := HS.out (by omega)
                    have e1 := (hB3.cell (p := ⟨b, off + k, none⟩) hb).trans (hc k hlt).1
                    clear hc
                    by_cases heq : ss k = name
                    · have heb : ((ss k).toList == name.toList) = true := by rw [heq]; simp
                      have HE := hide heq
                      clear heq
                      go_wp2
                      go_meet
                      case rel => exact ⟨k, true, by go_num, rfl, Or.inl ⟨rfl, hlt, HE.out⟩, rfl⟩
                    · have heb : ((ss k).toList == name.toList) = false := str_ne' heq
                      have HE := hide heq
                      clear heq
                      go_wp2
                      go_roundg (n - (k + 1))
                      case measure => omega
                      case rel => exact ⟨k + 1, by omega, rfl, rfl, rfl, by go_num, not_lst HN.out HE.out, rfl⟩
                  · have e : n = k := by omega
                    subst e
                    clear hk hlt
                    go_wp2
                    go_meet
                    case rel => exact ⟨n, false, rfl, rfl, Or.inr ⟨rfl, rfl, HN.out⟩, rfl⟩
              case rest =>
                as_aux_lemma =>
                obtain ⟨W, fd, rfl, rfl, hhit, rfl⟩ := hcut
                obtain ⟨ms, hO, hml⟩ := hhit.outs
                clear hhit
                go_upto_if 155 with fail
                go_cut [20] (fun v wc => v = .int .i64 (ms.length : Nat) ∧ w3 = wc)
                case first =>
                  cases fd with
                  | true =>
                    go_wp2
                    go_meet
                    case rel => exact ⟨by rw [hml]; rfl, rfl⟩
                  | false =>
                    go_wp2
                    go_meet
                    case rel => exact ⟨by rw [hml]; go_num, rfl⟩
                case rest =>
                  as_aux_lemma =>
                  obtain ⟨rfl, rfl⟩ := hcut
                  have hW := hO.lt
                  have hL := hO.len
                  have HOU := hide hO
                  clear hO hml
                  go_wp2_with fail
                  refine (zz_anyn w1.heap.size r sa scap n (lst ss n) (lst_len ss n) name like _ HT3.out hB3.size (by omega) (by omega) HO.out).mono ?_
                  rintro e w4 ⟨i, r4, sa4, scap4, ms', rfl, hi, hms, hT4, hB4⟩
                  obtain ⟨rfl, rfl⟩ := HOU.out.same hi hms hT4.2.1
                  have hlm4 := fun ty => hT4.len ty
                  have HT4 := hide hT4
                  have hB5 := hB3.trans hB4
                  clear hT4 hi hms hB4 HT3
                  go_wp2_with fail
                  clear hlm4
                  refine (zz_any w1.heap.size r4 sa4 scap4 ms' name (-1) _ HT4.out hB5.size (by omega) (by omega) (Or.inl rfl)).mono ?_
                  rintro e w5 ⟨i2, r5, sa5, scap5, ms2, rfl, hi, hms, hT5, hB6⟩
                  obtain ⟨rfl, rfl⟩ := HOU.out.again.same hi hms hT5.2.1
                  have HT5 := hide hT5
                  have hB7 := hB5.trans hB6
                  clear hT5 hi hms hB6 HT4 hB5
                  have hd1 : decide ((i2 : Int) < 0) = false := by simp
                  have hd2 : decide (ms2.length ≤ i2) = false := by simp; omega
                  go_wp2_with fail
                  clear hd1 hd2
                  refine (zz_any w1.heap.size r5 sa5 scap5 ms2 name i2 _ HT5.out hB7.size (by omega) (by omega) (Or.inr ⟨i2, rfl, hW⟩)).mono ?_
                  rintro e w6 ⟨i3, r6, sa6, scap6, ms3, rfl, hi, hms, hT6, hB8⟩
                  obtain ⟨rfl, rfl⟩ := HOU.out.again.same hi hms hT6.2.1
                  have hlm6 := fun ty => hT6.len ty
                  have hB9 := hB7.trans hB8
                  have HT6 := hide hT6
                  clear hT6 hi hms hB8 HT5 hB7
                  have hne : ((i3 : Int) != (i3 : Int)) = false := by simp
                  have hne2 : ((ms3.length : Int) != (ms3.length : Int)) = false := by simp
                  go_wp2_with fail
                  clear hlm6 hne hne2
                  go_loopg [32] n (fun g5 i w7 => ∃ t : Nat, t ≤ n ∧ g5 = n - t ∧ i = .int .i64 t ∧ Tbl w7 w1.heap.size (.map r6) (.slice sa6 ms3.length scap6) ms3 ∧ Below w1.heap.size w1 w7)
                  case atStart => exact ⟨0, Nat.zero_le _, rfl, rfl, HT6.out, hB9⟩
                  case round =>
                    as_aux_lemma =>
                    clear HT6 hB9
                    obtain ⟨t, ht, hg5, rfl, hT, hB⟩ := hrel
                    obtain ⟨rr, rfl, hcs⟩ := hT.cell (by omega)
                    by_cases hlt : t < n
                    · obtain ⟨b, off, rfl, hb, hc⟩ := HS.out (by omega)
                      have e1 := (hB.cell (p := ⟨b, off + t, none⟩) hb).trans (hc t hlt).1
                      have hi := HOU.out.old hlt
                      have e3 := hcs t _ hi
                      have hlk := fun d => (hT.drewN d).look_in hi
                      have q1 : (0 : Int) ≤ (t : Int) := Int.natCast_nonneg _
                      have q2 : (t : Int) < (n : Int) := by omega
                      have q4 : (t : Int) < (ms3.length : Int) := by omega
                      have hse : ((ss t).toList == (ss t).toList) = true := by simp
                      have hne : ((t : Int) != (t : Int)) = false := by simp
                      have HT := hide hT
                      clear hT hc hi hcs
                      go_wp2_with fail
                      go_quiet (fail)
                      go_wp2
                      go_roundg (n - (t + 1))
                      case measure => omega
                      case rel => exact ⟨t + 1, by omega, rfl, by go_num, HT.out.drewN _, below_drewN hB _⟩
                    · have e3 := hcs i3 _ HOU.out.1
                      have hlk := hT.look_in HOU.out.1
                      have hse : (name.toList == name.toList) = true := by simp
                      have q1 : (0 : Int) ≤ (i3 : Int) := Int.natCast_nonneg _
                      have q4 : (i3 : Int) < (ms3.length : Int) := by omega
                      have hfin : Below w.heap.size w _ := hB1.trans (hB.mono hB1.size)
                      clear hT hcs ht
                      go_wp2
                      go_ret
                      exact ⟨rfl, hfin⟩

end Go.Proofs.Qxb6621657a
