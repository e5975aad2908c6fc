/-
  zzpb1HasPrefix, zzpb1WithoutMark, token.bare: the walks.
-/
import Derived.Test.Qxb6618014aLeaf
import Derived.Test.Qxb6618014aLib
namespace Go.Proofs.Qxb6618014a
open Go.RowKit

theorem index_run (s : ByteArray) {k : Nat} (hk : k < s.size) (w : World) : (Instr.index 9 (.string s) (.int .i64 (k : Int))).run Try.prog w = .ok (.int .u8 ((s.data.toList[k]'(by rw [← Lib.size_eq]; exact hk)).toNat : Int)) w := by
  rw [run_index_string (P := Try.prog) w 9 s .i64 k Try.underlying9, dif_pos ⟨by omega, by omega⟩]
  rfl

theorem hasP_true {s p : ByteArray} (h : p.size ≤ s.size) (hi : ∀ i, i < p.size → s.data.toList[i]? = p.data.toList[i]?) : Lib.hasPrefix s.data.toList p.data.toList = true := by
  rw [← Lib.hasPrefix_of_take, ← Lib.size_eq, ← Lib.size_eq]
  have : s.data.toList.take p.size = p.data.toList := by
    apply List.ext_getElem?
    intro i
    rw [List.getElem?_take]
    by_cases h2 : i < p.size
    · rw [if_pos h2, hi i h2]
    · rw [if_neg h2, List.getElem?_eq_none (by rw [← Lib.size_eq]; omega)]
  rw [this]
  simp [h]
theorem hasP_false {s p : ByteArray} {i : Nat} (h : i < p.size) (hi : s.data.toList[i]? ≠ p.data.toList[i]?) : Lib.hasPrefix s.data.toList p.data.toList = false := by
  cases hh : Lib.hasPrefix s.data.toList p.data.toList
  · rfl
  · exfalso
    unfold Lib.hasPrefix at hh
    rw [List.isPrefixOf_iff_prefix] at hh
    obtain ⟨t, ht⟩ := hh
    apply hi
    rw [← ht, List.getElem?_append_left (by rw [← Lib.size_eq]; exact h)]
theorem hasP_short {s p : ByteArray} (h : s.size < p.size) : Lib.hasPrefix s.data.toList p.data.toList = false := by
  rw [← Lib.hasPrefix_of_take, ← Lib.size_eq, ← Lib.size_eq]
  simp; omega

set_option maxHeartbeats 1600000 in
theorem hasp_any (s p : ByteArray) (_hs : s.size ≤ 2097152) (hp : p.size ≤ 2097152) (w : World) : Calls Try.prog 15 #[.string s, .string p] w fun e w' => e = .returned (.bool (Lib.hasPrefix s.data.toList p.data.toList)) ∧ Below w.heap.size w w' := by
  by_cases hl : s.size < p.size
  · rw [hasP_short hl]
    go_enter Try.func15, Try.ntmps15
    go_wp2
    go_ret
    exact ⟨rfl, Below.refl _ _⟩
  obtain ⟨r, hr⟩ : ∃ r, Lib.hasPrefix s.data.toList p.data.toList = r := ⟨_, rfl⟩
  rw [hr]
  have HR := hide hr
  clear hr
  go_enter Try.func15, Try.ntmps15
  go_wp2_with fail
  go_loopw [5] (fun i wr => ∃ k : Nat, k ≤ p.size ∧ i = .int .i64 k ∧ (∀ j, j < k → s.data.toList[j]? = p.data.toList[j]?) ∧ Below w.heap.size w wr) (fun i _ => p.size - (intOf i).toNat)
  case atStart => exact ⟨0, Nat.zero_le _, rfl, fun j hj => absurd hj (Nat.not_lt_zero _), Below.refl _ _⟩
  case round =>
    obtain ⟨k, hk, rfl, hall, hB⟩ := hrel
    have HA := hide hall
    clear hall
    by_cases hlt : k < p.size
    · have hk1 : k < s.data.toList.length := by rw [← Lib.size_eq]; omega
      have hk2 : k < p.data.toList.length := by rw [← Lib.size_eq]; omega
      have i1 := index_run s (k := k) (by omega)
      have i2 := index_run p (k := k) (by omega)
      have g1 : s.data.toList[k]? = some s.data.toList[k] := List.getElem?_eq_getElem hk1
      have g2 : p.data.toList[k]? = some p.data.toList[k] := List.getElem?_eq_getElem hk2
      generalize s.data.toList[k] = a at *
      generalize p.data.toList[k] = b at *
      have HG := hide (And.intro g1 g2)
      clear g1 g2
      by_cases hab : a = b
      · have hq : ((a.toNat : Int) != (b.toNat : Int)) = false := by rw [hab]; simp
        have HE := hide hab
        clear hab
        go_wp2_with fail
        go_quiet (fail)
        go_wp2
        go_roundw
        case rel => exact ⟨k + 1, by omega, by go_num, fun j hj => by
          by_cases e : j = k
          · subst e; rw [HG.out.1, HG.out.2, HE.out]
          · exact HA.out j (by omega), below_drewN hB _⟩
        case measure => simp [intOf]; omega
      · have hq : ((a.toNat : Int) != (b.toNat : Int)) = true := by
          simp only [bne_iff_ne, ne_eq]
          intro e
          exact hab (UInt8.toNat_inj.1 (by omega))
        have HE := hide hab
        clear hab
        go_wp2_with fail
        go_quiet (fail)
        go_wp2
        go_ret
        refine ⟨?_, below_drewN hB _⟩
        have : r = false := by
          rw [← HR.out]
          exact hasP_false hlt (by rw [HG.out.1, HG.out.2]; simpa using HE.out)
        rw [this]; rfl
    · have e : r = true := by
        rw [← HR.out]
        exact hasP_true (by omega) (fun i hi => HA.out i (by omega))
      subst e
      go_wp2
      go_ret
      exact ⟨rfl, hB⟩

def bomB : ByteArray := ⟨#[239, 187, 191]⟩
def crB : ByteArray := ⟨#[13]⟩
/-- a token's text without the mark -/
def withM (x : ByteArray) (bom : Bool) : ByteArray := if bom = true then ⟨(Lib.trimPrefix x.data.toList bomB.data.toList).toArray⟩ else x
/-- .. and without the carriage return -/
def bareOf (x : ByteArray) (bom cr : Bool) : ByteArray := if cr = true then ⟨(Lib.trimSuffix (withM x bom).data.toList crB.data.toList).toArray⟩ else withM x bom

theorem withM_size (x : ByteArray) (bom : Bool) : (withM x bom).size ≤ x.size := by
  unfold withM
  split
  · rw [Lib.size_eq, Lib.size_eq x]
    exact Lib.trimPrefix_le _ _
  · exact Nat.le_refl _

theorem withM_hit {x : ByteArray} (h : Lib.hasPrefix x.data.toList bomB.data.toList = true) : 3 ≤ x.size ∧ withM x true = x.extract 3 x.size := by
  have h3 : 3 ≤ x.size := by
    rw [← Lib.hasPrefix_of_take, Bool.and_eq_true, decide_eq_true_eq, ← Lib.size_eq x] at h
    exact h.1
  refine ⟨h3, ?_⟩
  unfold withM Lib.trimPrefix
  rw [if_pos rfl, if_pos h, Lib.extract_eq]
  show (⟨(x.data.toList.drop 3).toArray⟩ : ByteArray) = _
  rw [List.take_of_length_le (by rw [List.length_drop, ← Lib.size_eq]; omega)]
theorem withM_miss {x : ByteArray} (h : Lib.hasPrefix x.data.toList bomB.data.toList = false) : withM x true = x := by
  unfold withM Lib.trimPrefix
  rw [if_pos rfl, if_neg (by rw [h]; exact Bool.false_ne_true)]

set_option maxHeartbeats 1600000 in
theorem mark_any (x : ByteArray) (bom : Bool) (hx : x.size ≤ 1048576) (w : World) : Calls Try.prog 8 #[.string x, .bool bom] w fun e w' => e = .returned (.string (withM x bom)) ∧ Below w.heap.size w w' := by
  cases bom with
  | false =>
    go_enter Try.func8, Try.ntmps8
    go_wp2
    go_ret
    exact ⟨rfl, Below.refl _ _⟩
  | true =>
    have c := hasp_any x bomB (by omega) (by decide) w
    cases hh : Lib.hasPrefix x.data.toList bomB.data.toList with
    | true =>
      obtain ⟨h3, he⟩ := withM_hit hh
      rw [he]
      rw [hh] at c
      clear he hh
      go_enter Try.func8, Try.ntmps8
      go_wp2_with fail
      refine c.mono ?_
      rintro e w' ⟨rfl, hb⟩
      go_wp2
      go_ret
      exact ⟨rfl, hb⟩
    | false =>
      rw [withM_miss hh]
      rw [hh] at c
      clear hh
      go_enter Try.func8, Try.ntmps8
      go_wp2_with fail
      refine c.mono ?_
      rintro e w' ⟨rfl, hb⟩
      go_wp2
      go_ret
      exact ⟨rfl, hb⟩

set_option maxHeartbeats 1600000 in
theorem bare_any (x : ByteArray) (line q : Int) (bom cr : Bool) (hx : x.size ≤ 2097152) (w : World) : Calls Try.prog 19 #[.agg #[.string x, .int .i64 line, .int .u8 q, .bool bom, .bool cr]] w fun e w' => e = .returned (.string (bareOf x bom cr)) ∧ Below w.heap.size w w' := by
  have hsz := withM_size x bom
  have HC := hide (fun w' => Try.strings_TrimPrefix x bomB w')
  have HD := hide (fun w' => Try.strings_TrimSuffix (withM x bom) crB w' (by omega))
  have hB := (Below.refl w.heap.size w).alloc (Nat.le_refl _) (.cells #[.string x, .int .i64 line, .int .u8 q, .bool bom, .bool cr] 37)
  cases bom with
  | false =>
    have e1 : withM x false = x := rfl
    rw [e1] at HD
    cases cr with
    | false =>
      go_enter Try.func19, Try.ntmps19
      go_wp2
      go_ret
      exact ⟨rfl, hB⟩
    | true =>
      go_enter Try.func19, Try.ntmps19
      go_wp2_with fail
      refine (HD.out _).mono ?_
      rintro e w' ⟨rfl, rfl⟩
      go_wp2
      go_ret
      exact ⟨rfl, hB⟩
  | true =>
    have e1 : withM x true = ⟨(Lib.trimPrefix x.data.toList bomB.data.toList).toArray⟩ := rfl
    have e2 : bareOf x true cr = if cr = true then ⟨(Lib.trimSuffix (withM x true).data.toList crB.data.toList).toArray⟩ else withM x true := rfl
    rw [e2]
    rw [← e1] at HC
    clear e1 e2
    generalize withM x true = y at *
    cases cr with
    | false =>
      go_enter Try.func19, Try.ntmps19
      go_wp2_with fail
      refine (HC.out _).mono ?_
      rintro e w' ⟨rfl, rfl⟩
      go_wp2
      go_ret
      exact ⟨rfl, hB⟩
    | true =>
      go_enter Try.func19, Try.ntmps19
      go_wp2_with fail
      refine (HC.out _).mono ?_
      rintro e w' ⟨rfl, rfl⟩
      go_wp2_with fail
      refine (HD.out _).mono ?_
      rintro e w' ⟨rfl, rfl⟩
      go_wp2
      go_ret
      exact ⟨rfl, hB⟩

/-! ### plain -/
theorem pre_snoc (l : List UInt8) : Lib.hasPrefix (l ++ [13]) [239, 187, 191] = Lib.hasPrefix l [239, 187, 191] := by
  unfold Lib.hasPrefix
  match l with
  | [] => decide
  | [a] => simp [List.isPrefixOf]
  | [a, b] => simp [List.isPrefixOf]
  | a :: b :: c :: t => simp [List.isPrefixOf]
theorem suf_snoc (l : List UInt8) : Lib.trimSuffix (l ++ [13]) [13] = l := by
  unfold Lib.trimSuffix
  rw [if_pos]
  · simp
  · unfold Lib.hasSuffix
    rw [List.isSuffixOf_iff_suffix]
    exact List.suffix_append _ _
theorem joined_bare (x : ByteArray) (bom : Bool) : bareOf (x ++ crB) bom true = withM x bom := by
  have hd : (x ++ crB).data.toList = x.data.toList ++ [13] := by
    rw [ByteArray.data_append, Array.toList_append]
    rfl
  have hb : bomB.data.toList = [239, 187, 191] := rfl
  have hc : crB.data.toList = [13] := rfl
  unfold bareOf
  rw [if_pos rfl]
  cases bom with
  | false =>
    show (⟨(Lib.trimSuffix (x ++ crB).data.toList crB.data.toList).toArray⟩ : ByteArray) = x
    rw [hd, hc, suf_snoc]
  | true =>
    show (⟨(Lib.trimSuffix (Lib.trimPrefix (x ++ crB).data.toList bomB.data.toList) crB.data.toList).toArray⟩ : ByteArray) = ⟨(Lib.trimPrefix x.data.toList bomB.data.toList).toArray⟩
    rw [hd, hb, hc]
    unfold Lib.trimPrefix
    rw [pre_snoc]
    cases hp : Lib.hasPrefix x.data.toList [239, 187, 191] with
    | false => simp only [Bool.false_eq_true, if_false]; rw [suf_snoc]
    | true =>
      simp only [if_true]
      have h3 : 3 ≤ x.data.toList.length := by
        unfold Lib.hasPrefix at hp
        rw [List.isPrefixOf_iff_prefix] at hp
        exact hp.length_le
      rw [List.drop_append_of_le_length (by simpa using h3), suf_snoc]

end Go.Proofs.Qxb6618014a
