/-
  FnNamesNumberByFirstMeeting: the walk.
-/
import Derived.Test.Qxb6621657aGuard
import Derived.Test.Qxb6621657aZz
import Derived.Deep.OwnRows
import Derived.Deep.DeepCutAuto
import Derived.Deep.LoopGhost
namespace Go.Proofs.Qxb6621657a
open Go.RowKit Go.Maps Go.ChangeMaps

theorem Try.info21 : (Try.prog.info? 21).map (fun i => (i.zero, i.size, i.bytes)) = some (some (.int .i32 0), 1, 4) := by kernel_rfl

/-- the first k of f, then 0 -/
def preI (k : Nat) (f : Nat → Nat) (j : Nat) : Value := if j < k then .int .i32 (f j) else .int .i32 0
/-- the hint at k -/
def likeAt (m : Nat) (z : Nat → Int) (k : Nat) : Int := if k < m then z k else -1
/-- a hint that number may be handed at a table of d names -/
def okLike (l : Int) (d : Nat) : Prop := l = -1 ∨ ∃ j : Nat, l = j ∧ j < d

/-- THE WANTED NUMBERS AS THEY LIE: block C, n cells, the first k of them filled -/
def WantAt (w wr : World) (C n k : Nat) (f : Nat → Nat) : Prop := wr.rowIs C 21 n (preI k f) ∧ Below C w wr ∧ wr.heap.size = C + 1

theorem WantAt.step {w wr : World} {C n k : Nat} {f : Nat → Nat} (h : WantAt w wr C n k f) (v : Nat) : WantAt w (wr.setCell ⟨C, k, none⟩ (.int .i32 v)) C n (k + 1) (fun j => if j = k then v else f j) := by
  obtain ⟨h1, h2, h3⟩ := h
  refine ⟨(h1.set k _).congr (fun j hj => ?_), h2.setCell (Nat.le_refl _) _, by simpa [World.setCell] using h3⟩
  unfold preI
  by_cases e : j = k
  · subst e; simp
  · by_cases hl : j < k
    · have : j < k + 1 := by omega
      simp [e, hl, this]
    · have : ¬ j < k + 1 := by omega
      simp [e, hl, this]
theorem WantAt.drewN {w wr : World} {C n k : Nat} {f : Nat → Nat} (h : WantAt w wr C n k f) (d : Nat) : WantAt w (wr.drewN d) C n k f :=
  ⟨h.1.of_block rfl, below_drewN h.2.1 _, h.2.2⟩

/-- what the second loop's rounds keep -/
def Rel2 (w wr : World) (n m : Nat) (ss : Nat → ByteArray) (z : Nat → Int) (fm : Nat → List ByteArray) (k : Nat) (f : Nat → Nat) : Prop :=
  WantAt w wr w.heap.size n k f ∧ Want ss fm f k ∧ ∀ j, j < k → okLike (likeAt m z j) (fm j).length

/-- what the search's rounds keep -/
def Rel3 (w wi : World) (n : Nat) (ss : Nat → ByteArray) (k : Nat) (f : Nat → Nat) (t : Nat) : Prop := WantAt w wi w.heap.size n k f ∧ ∀ s, s < t → ss s ≠ ss k

theorem str_ne {a b : ByteArray} (h : a ≠ b) : (a.toList == b.toList) = false := by
  cases hh : (a.toList == b.toList)
  · rfl
  · exfalso
    apply h
    have : a.toList = b.toList := by simpa using hh
    rw [ByteArray.toList_eq, ByteArray.toList_eq] at this
    apply ByteArray.ext
    exact Array.toList_inj.1 this

theorem ok_step {m : Nat} {z : Nat → Int} {fm : Nat → List ByteArray} {k : Nat} (h : ∀ j, j < k → okLike (likeAt m z j) (fm j).length) (hk : okLike (likeAt m z k) (fm k).length) : ∀ j, j < k + 1 → okLike (likeAt m z j) (fm j).length := fun j hj => by
  by_cases e : j = k
  · subst e; exact hk
  · exact h j (by omega)

/-- what the fourth loop's rounds keep -/
def Rel4 (w2 w4 : World) (base : Nat) (ms : List ByteArray) (r : Option Nat) (sa : Option Addr) (scap : Nat) : Prop := Tbl w4 base (.map r) (.slice sa ms.length scap) ms ∧ Below base w2 w4

set_option maxRecDepth 100000 in
set_option maxHeartbeats 6400000 in
theorem first_law (a0 a1 : Option Addr) (c0 c1 n m : Nat) (ss : Nat → ByteArray) (z : Nat → Int) (w : World) (h0 : IsStrs w a0 n ss) (h1 : IsI32s w a1 m z) (hmx : m ≤ maxLen) :
    Calls Try.prog 3 #[.slice a0 n c0, .slice a1 m c1] w fun e w' => e = .returned (.bool true) ∧ Below w.heap.size w w' := by
  obtain ⟨fm, hfm⟩ := fm_exists ss
  have hM : Met ss fm := hfm
  clear hfm
  go_enter Try.func3, Try.ntmps3
  go_wp2_with fail
  refine (bytes_any a0 a1 c0 c1 n m ss w h0 hmx).mono ?_
  rintro e w' ⟨⟨b, rfl, hb⟩, rfl⟩
  cases b with
  | false =>
    go_wp2
    go_ret
    exact ⟨rfl, Below.refl _ _⟩
  | true =>
  have hsz := hb rfl
  clear hb
  by_cases hn : (4096 : Int) < n
  · go_wp2
    go_ret
    exact ⟨rfl, Below.refl _ _⟩
  by_cases hm : (4096 : Int) < m
  · go_wp2
    go_ret
    exact ⟨rfl, Below.refl _ _⟩
  have d1 : decide ((4096 : Int) < (n : Int)) = false := by simp; omega
  have d2 : decide ((4096 : Int) < (m : Int)) = false := by simp; omega
  have HSZ := hide hsz
  clear hsz hmx
  go_wp2_with fail
  clear d1 d2
  -- the first loop: the total length
  go_loop [5, 6] (fun b i => ∃ k : Nat, k ≤ n ∧ i = .int .i64 k ∧ ∃ x : Int, 0 ≤ x ∧ x ≤ 1048576 ∧ b = .int .i64 x) (fun _ i => n - (intOf i).toNat)
  case atStart => exact ⟨0, Nat.zero_le _, rfl, 8 * n + 4 * m, by omega, by omega, by go_num⟩
  case round =>
    obtain ⟨k, hk, rfl, x, hx0, hx1, rfl⟩ := hrel
    by_cases hlt : k < n
    · obtain ⟨b, off, rfl, _, hc⟩ := h0 (by omega)
      have c1 := (hc k hlt).1
      have hsk := HSZ.out k hlt
      clear hc
      go_wp2
      · go_ret
        exact ⟨rfl, Below.refl _ _⟩
      · go_round
        case rel => exact ⟨k + 1, by omega, by go_num, x + (ss k).size, by omega, by omega, by go_num⟩
        case measure => simp [intOf]; omega
    · have e : n = k := by omega
      subst e
      clear hk hlt
      have hmk := run_make_row' (P := Try.prog) 23 21 (.int .i32 0) 4 Try.underlying23 Try.info21 rfl .i64 .i64 n (by omega) (by omega)
      go_wp2
      clear hmk
      go_loopg [8, 9] n (fun gk d i wr => ∃ (k : Nat) (f : Nat → Nat), k ≤ n ∧ gk = n - k ∧ i = .int .i64 k ∧ d = .int .i32 ((fm k).length : Nat) ∧ Rel2 w wr n m ss z fm k f)
      case atStart =>
        refine ⟨0, fun _ => 0, Nat.zero_le _, rfl, rfl, by rw [hM.1]; rfl, ⟨(World.rowIs_made w (.int .i32 0) n 21).congr (fun j _ => by simp [preI]), (Below.refl _ _).alloc (Nat.le_refl _) _, by simp⟩, fun j hj => absurd hj (Nat.not_lt_zero _), fun j hj => absurd hj (Nat.not_lt_zero _)⟩
      case round =>
        obtain ⟨k, f, hk, hgk, rfl, rfl, hR⟩ := hrel
        have hlen := hM.len k
        by_cases hlt : k < n
        · obtain ⟨b, off, rfl, hb, hc⟩ := h0 (by omega)
          go_upto_if 69 with fail
          go_cut [10] (fun v wc => v = .int .i32 (likeAt m z k) ∧ wr = wc)
          case first =>
            by_cases hkm : k < m
            · obtain ⟨lb, lo, rfl, hlb, hlc⟩ := h1 (by omega)
              have e1 := (hR.1.2.1.cell (p := ⟨lb, lo + k, none⟩) hlb).trans (hlc k hkm).1
              clear hlc hc
              go_wp2
              go_meet
              case rel => exact ⟨by simp [likeAt, hkm], rfl⟩
            · clear hc
              go_wp2
              go_meet
              case rel => exact ⟨by simp [likeAt, hkm], rfl⟩
          case rest =>
            obtain ⟨rfl, rfl⟩ := hcut
            go_upto_region 20 with fail
            by_cases hok : okLike (likeAt m z k) (fm k).length
            case neg =>
              -- the hint is none: the law lets it by
              have hbel : Below w.heap.size w wr := hR.1.2.1
              have hz0 : likeAt m z k ≠ -1 ∧ (likeAt m z k < 0 ∨ ((fm k).length : Int) ≤ likeAt m z k) := by
                constructor
                · exact fun e => hok (Or.inl e)
                · by_cases hneg : likeAt m z k < 0
                  · exact Or.inl hneg
                  · refine Or.inr ?_
                    obtain ⟨j, hj⟩ := Int.eq_ofNat_of_zero_le (show 0 ≤ likeAt m z k by omega)
                    have : ¬ j < (fm k).length := fun h => hok (Or.inr ⟨j, hj, h⟩)
                    omega
              have HB := hide hbel
              clear hR hc hok hbel
              generalize likeAt m z k = l at *
              obtain ⟨hl1, hl2⟩ := hz0
              have hl1b : (l != -1) = true := by simp [hl1]
              generalize (fm k).length = d at *
              clear hl1
              rcases hl2 with hl2 | hl2
              · go_wp2
                go_ret
                exact ⟨rfl, HB.out⟩
              · by_cases hneg : l < 0
                · go_wp2
                  go_ret
                  exact ⟨rfl, HB.out⟩
                · go_wp2
                  go_ret
                  exact ⟨rfl, HB.out⟩
            have HO := hide hok
            have HR := hide hR
            generalize hl : likeAt m z k = l at hok ⊢
            clear hl hR
            go_cut [84] (fun v wc => v = .bool false ∧ wr = wc)
            case first =>
              clear hc
              generalize (fm k).length = d at *
              rcases hok with rfl | ⟨j, rfl, hj⟩
              · go_wp2
                go_meet
                case rel => exact ⟨rfl, rfl⟩
              · have hne : ((j : Int) != -1) = true := by simp
                have hd1 : decide ((j : Int) < 0) = false := by simp
                have hd2 : decide (d ≤ j) = false := by simp; omega
                go_wp2
                go_meet
                case rel => exact ⟨by first | rfl | simp [hd2], rfl⟩
            case rest =>
              obtain ⟨rfl, rfl⟩ := hcut
              clear hok
              go_wp2_with fail
              go_loopg [11, 12] k (fun gi fst j wi => ∃ t : Nat, t ≤ k ∧ gi = k - t ∧ j = .int .i64 t ∧ fst = .int .i64 (-1) ∧ Rel3 w wi n ss k f t)
              case atStart => exact ⟨0, Nat.zero_le _, rfl, rfl, rfl, HR.out.1, fun s hs => absurd hs (Nat.not_lt_zero _)⟩
              case round =>
                obtain ⟨t, ht, hgi, rfl, rfl, hI⟩ := hrel
                by_cases htk : t < k
                · have s1 := (hI.1.2.1.cell (p := ⟨b, off + t, none⟩) hb).trans (hc t (by omega)).1
                  have s2 := (hI.1.2.1.cell (p := ⟨b, off + k, none⟩) hb).trans (hc k (by omega)).1
                  have q1 : (0 : Int) ≤ (t : Int) := Int.natCast_nonneg _
                  have q2 : (t : Int) < (n : Int) := by omega
                  have q3 : (0 : Int) ≤ (k : Int) := Int.natCast_nonneg _
                  have q4 : (k : Int) < (n : Int) := by omega
                  have w1 := hI.1.1.cell (i := t) (by omega)
                  have w2 := hI.1.1.cell (i := k) (by omega)
                  have w3 := hI.1.1.frozen k
                  have w1' : preI k f t = .int .i32 (f t) := if_pos htk
                  have w2' : preI k f k = .int .i32 0 := if_neg (Nat.lt_irrefl _)
                  rw [w1'] at w1
                  rw [w2'] at w2
                  clear w1' w2'
                  have HI := hide hI
                  clear hI
                  by_cases heq : ss t = ss k
                  · have heb : ((ss t).toList == (ss k).toList) = true := by rw [heq]; simp
                    have HE := hide heq
                    clear heq hc
                    go_wp2_with fail
                    go_quiet (fail)
                    go_wp2
                    go_roundg (n - (k + 1))
                    case measure => omega
                    case rel =>
                      have hW := Want.old hM HR.out.2.1 htk HE.out
                      exact ⟨k + 1, _, by omega, rfl, by go_num, by rw [hW.1], (HI.out.1.drewN _).step (f t), hW.2, ok_step HR.out.2.2 HO.out⟩
                  · have heb : ((ss t).toList == (ss k).toList) = false := str_ne heq
                    have HE := hide heq
                    clear heq hc
                    go_wp2_with fail
                    go_quiet (fail)
                    go_wp2
                    go_roundg (k - (t + 1))
                    case measure => omega
                    case rel => exact ⟨t + 1, by omega, rfl, by go_num, rfl, HI.out.1.drewN _, fun s hs => by
                      by_cases e : s = t
                      · subst e; exact HE.out
                      · exact HI.out.2 s (by omega)⟩
                · have e : k = t := by omega
                  subst e
                  have w2 := hI.1.1.cell (i := k) (by omega)
                  have w3 := hI.1.1.frozen k
                  have w2' : preI k f k = .int .i32 0 := if_neg (Nat.lt_irrefl _)
                  rw [w2'] at w2
                  clear w2'
                  have HI := hide hI
                  clear hI hc
                  go_wp2
                  go_roundg (n - (k + 1))
                  case measure => omega
                  case rel =>
                    have hW := Want.new hM HR.out.2.1 HI.out.2
                    exact ⟨k + 1, _, by omega, rfl, by go_num, by rw [hW.1]; go_num, HI.out.1.step (fm k).length, hW.2, ok_step HR.out.2.2 HO.out⟩
        · have e : n = k := by omega
          subst e
          clear hk hlt
          go_wp2
          obtain ⟨⟨hrow, hbw, hsz2⟩, hWt, hOk⟩ := hR
          have HWt := hide hWt
          have HOk := hide hOk
          have HM := hide hM
          have h00 : fm 0 = [] := hM.1
          have T0 : Tbl wr (w.heap.size + 1) (.map none) (.slice none (fm 0).length 0) (fm 0) := by rw [h00]; exact Tbl.nil _ _
          have S0 : Value.slice none 0 0 = Value.slice none (fm 0).length 0 := by rw [h00]; rfl
          have B0 := Below.refl (w.heap.size + 1) wr
          have hfl : ∀ t, (fm t).length ≤ t := hM.len
          have HL := hide hfl
          have HH := hide (And.intro T0 S0)
          clear hWt hOk hM h00 T0 S0 hfl
          go_loopg [13, 14, 15] n (fun g4 mv sv i w4 => ∃ (t : Nat) (r : Option Nat) (sa : Option Addr) (scap : Nat), t ≤ n ∧ g4 = n - t ∧ i = .int .i64 t ∧ mv = .map r ∧ sv = .slice sa (fm t).length scap ∧ Rel4 wr w4 (w.heap.size + 1) (fm t) r sa scap)
          case atStart => exact ⟨0, none, none, 0, Nat.zero_le _, rfl, rfl, rfl, HH.out.2, HH.out.1, B0⟩
          case round =>
            clear HH B0
            obtain ⟨t, r, sa, scap, ht, hg4, rfl, rfl, rfl, hT, hB4⟩ := hrel
            have hlt4 := HL.out t
            by_cases hlt : t < n
            · obtain ⟨b, off, rfl, hb, hc⟩ := h0 (by omega)
              have hb4 : Below w.heap.size w wr := hbw.trans (hB4.mono (Nat.le_succ _))
              go_upto_if 124 with fail
              go_cut [16] (fun v wc => v = .int .i32 (likeAt m z t) ∧ wr = wc)
              case first =>
                by_cases hkm : t < m
                · obtain ⟨lb, lo, rfl, hlb, hlc⟩ := h1 (by omega)
                  have e1 := (hb4.cell (p := ⟨lb, lo + t, none⟩) hlb).trans (hlc t hkm).1
                  clear hlc hc
                  go_wp2
                  go_meet
                  case rel => exact ⟨by simp [likeAt, hkm], rfl⟩
                · clear hc
                  go_wp2
                  go_meet
                  case rel => exact ⟨by simp [likeAt, hkm], rfl⟩
              case rest =>
                obtain ⟨rfl, rfl⟩ := hcut
                have e1 := (hb4.cell (p := ⟨b, off + t, none⟩) hb).trans (hc t hlt).1
                have hsk := HSZ.out t hlt
                have hok := HOk.out t hlt
                clear hc
                have HT := hide hT
                clear hT
                generalize likeAt m z t = l at hok ⊢
                go_wp2_with fail
                refine (zz_any (w.heap.size + 1) r sa scap (fm t) (ss t) l _ HT.out (by have := hB4.size; omega) hsk (by omega) hok).mono ?_
                rintro e w5 ⟨i, r', sa', scap', ms', rfl, hi, hms, hT', hB5⟩
                obtain rfl := Met.next HM.out hi hms
                obtain rfl := Want.hit HM.out HWt.out hlt hi
                have hB6 := hB4.trans hB5
                have e2 := (hB6.cell (p := ⟨w.heap.size, t, none⟩) (by simp)).trans (hrow.cell (i := t) hlt)
                have e2' : preI n f t = .int .i32 (f t) := if_pos hlt
                rw [e2'] at e2
                have hne : (((f t : Nat) : Int) != ((f t : Nat) : Int)) = false := by simp
                have HT' := hide hT'
                clear hT' hi hms hok e2'
                go_wp2
                go_roundg (n - (t + 1))
                case measure => omega
                case rel => exact ⟨t + 1, r', sa', scap', by omega, rfl, by go_num, rfl, rfl, HT'.out, hB6⟩
            · have e : n = t := by omega
              subst e
              clear ht hlt
              have hlm := fun ty => hT.len ty
              have HT := hide hT
              clear hT
              have hne : (((fm n).length : Int) != ((fm n).length : Int)) = false := by simp
              go_wp2_with fail
              clear hlm hne
              have HQ := hide (show Rel4 _ _ _ _ _ _ _ from And.intro HT.out hB4)
              clear HT hB4
              go_loopg [20] n (fun g5 i w5 => ∃ t : Nat, t ≤ n ∧ g5 = n - t ∧ i = .int .i64 t ∧ Tbl w5 (w.heap.size + 1) (.map r) (.slice sa (fm n).length scap) (fm n) ∧ Below (w.heap.size + 1) wr w5)
              case atStart => exact ⟨0, Nat.zero_le _, rfl, rfl, HQ.out.1, Below.refl _ _⟩
              case round =>
                obtain ⟨t, ht, hg5, rfl, hT, hB5⟩ := hrel
                have hB7 := HQ.out.2.trans hB5
                have hbe : Below w.heap.size w wr := hbw.trans (hB7.mono (Nat.le_succ _))
                by_cases hlt : t < n
                · obtain ⟨b, off, rfl, hb, hc⟩ := h0 (by omega)
                  have e1 := (hbe.cell (p := ⟨b, off + t, none⟩) hb).trans (hc t hlt).1
                  have e2 := (hB7.cell (p := ⟨w.heap.size, t, none⟩) (by simp)).trans (hrow.cell (i := t) hlt)
                  have e2' : preI n f t = .int .i32 (f t) := if_pos hlt
                  rw [e2'] at e2
                  have hi := HWt.out t hlt
                  have hil := (List.getElem?_eq_some_iff.1 hi).1
                  obtain ⟨rr, cp, esh, hrb, hrl⟩ := hT.1.form (by omega)
                  have e3 : wr.cell? ⟨rr, f t, none⟩ = some (.string (ss t)) := by
                    have := hT.1
                    rw [esh] at this
                    rw [this.cellAt (f t) (by omega)]
                    simp [hi]
                  simp only [Value.slice.injEq] at esh
                  obtain ⟨rfl, _, rfl⟩ := esh
                  have hlk := fun d => (hT.drewN d).look_in hi
                  have q1 : (0 : Int) ≤ (t : Int) := Int.natCast_nonneg _
                  have q2 : (t : Int) < (n : Int) := by omega
                  have q3 : (0 : Int) ≤ ((f t : Nat) : Int) := Int.natCast_nonneg _
                  have q4 : ((f t : Nat) : Int) < ((fm n).length : Int) := by omega
                  have hse : ((ss t).toList == (ss t).toList) = true := by simp
                  have hne : (((f t : Nat) : Int) != ((f t : Nat) : Int)) = false := by simp
                  have HT := hide hT
                  clear hT hc hi e2'
                  go_wp2_with fail
                  go_quiet (fail)
                  go_wp2
                  go_roundg (n - (t + 1))
                  case measure => omega
                  case rel => exact ⟨t + 1, by omega, rfl, by go_num, HT.out.drewN _, below_drewN hB5 _⟩
                · clear ht
                  go_wp2
                  go_ret
                  exact ⟨rfl, hbe⟩

end Go.Proofs.Qxb6621657a
