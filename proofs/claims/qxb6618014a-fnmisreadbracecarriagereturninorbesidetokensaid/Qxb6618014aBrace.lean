/-
  misreadBrace: the walks.
-/
import Derived.Test.Qxb6618014aMark
import Derived.Deep.RegionHeld3
import Derived.Deep.DeepCutAuto
namespace Go.Proofs.Qxb6618014a
open Go.RowKit

/-- A TOKEN AS IT LIES -/
def TokAt (w : World) (T o : Nat) (s : ByteArray) (line q : Int) (bom cr : Bool) : Prop :=
  w.cell? ⟨T, o, none⟩ = some (.string s) ∧ w.cell? ⟨T, o + 1, none⟩ = some (.int .i64 line) ∧ w.cell? ⟨T, o + 2, none⟩ = some (.int .u8 q) ∧ w.cell? ⟨T, o + 3, none⟩ = some (.bool bom) ∧ w.cell? ⟨T, o + 4, none⟩ = some (.bool cr)

/-- the message -/
def msgOf (b : ByteArray) : ByteArray := (((cCR ++ b) ++ cAs) ++ cBlank) ++ cSo ++ effOf b

def NRes (w : World) (e : Ending) (w' : World) : Prop := e = .returned (.pointer none) ∧ Below w.heap.size w w'

set_option maxRecDepth 100000 in
set_option maxHeartbeats 1600000 in
theorem one_miss (T cap : Nat) (s b : ByteArray) (line q : Int) (bom : Bool) (hs : s.size ≤ 1048577) (w : World) (ht : TokAt w T 0 s line q bom true) (_hT : T < w.heap.size) (hne : ((bareOf s bom true).toList == b.toList) = false) :
    Calls Try.prog 14 #[.slice (some ⟨T, 0, none⟩) 1 cap, .string b] w fun e w' => NRes w e w' := by
  obtain ⟨c0, c1, c2, c3, c4⟩ := ht
  simp only [Nat.zero_add] at c0 c1 c2 c3 c4
  have HC := hide (fun w' => bare_any s line q bom true (by omega) w')
  generalize bareOf s bom true = y at *
  go_enter Try.func14, Try.ntmps14
  go_wp2_with fail
  go_region_held3 (fun w' => w'.cell? ⟨T, 0, none⟩ = some (.string s) ∧ w'.cell? ⟨T, 1, none⟩ = some (.int .i64 line) ∧ w'.cell? ⟨T, 2, none⟩ = some (.int .u8 q) ∧ w'.cell? ⟨T, 3, none⟩ = some (.bool bom) ∧ w'.cell? ⟨T, 4, none⟩ = some (.bool true)) (go_keep) (fail)
  go_wp2_with fail
  have hB : Below w.heap.size w (w.alloc (.cells #[.string s, .int .i64 line, .int .u8 q, .bool bom, .bool true] 37)).drew := ((Below.refl _ _).alloc (Nat.le_refl _) _).drew
  generalize (w.alloc (.cells #[.string s, .int .i64 line, .int .u8 q, .bool bom, .bool true] 37)).drew = w2 at *
  refine (HC.out _).mono ?_
  rintro e w3 ⟨rfl, hb3⟩
  go_wp2
  go_ret
  exact ⟨rfl, hB.trans (hb3.mono hB.size)⟩

set_option maxRecDepth 100000 in
set_option maxHeartbeats 1600000 in
theorem one_hit (T cap : Nat) (s b : ByteArray) (line q : Int) (bom : Bool) (hs : s.size ≤ 1048577) (hbz : b.size ≤ 1048576) (w : World) (ht : TokAt w T 0 s line q bom true) (hT : T < w.heap.size) (hne : ((bareOf s bom true).toList == b.toList) = true) :
    Calls Try.prog 14 #[.slice (some ⟨T, 0, none⟩) 1 cap, .string b] w fun e w' => MRes w line (msgOf b) e w' := by
  obtain ⟨c0, c1, c2, c3, c4⟩ := ht
  simp only [Nat.zero_add] at c0 c1 c2 c3 c4
  have HC := hide (fun w' => bare_any s line q bom true (by omega) w')
  generalize bareOf s bom true = y at *
  go_enter Try.func14, Try.ntmps14
  go_wp2_with fail
  go_region_held3 (fun w' => w'.cell? ⟨T, 0, none⟩ = some (.string s) ∧ w'.cell? ⟨T, 1, none⟩ = some (.int .i64 line) ∧ w'.cell? ⟨T, 2, none⟩ = some (.int .u8 q) ∧ w'.cell? ⟨T, 3, none⟩ = some (.bool bom) ∧ w'.cell? ⟨T, 4, none⟩ = some (.bool true)) (go_keep) (fail)
  go_wp2_with fail
  have hB : Below w.heap.size w (w.alloc (.cells #[.string s, .int .i64 line, .int .u8 q, .bool bom, .bool true] 37)).drew := ((Below.refl _ _).alloc (Nat.le_refl _) _).drew
  rename_i hHeld _ _ _ _ _ _
  generalize (w.alloc (.cells #[.string s, .int .i64 line, .int .u8 q, .bool bom, .bool true] 37)).drew = w2 at *
  refine (HC.out _).mono ?_
  rintro e w3 ⟨rfl, hb3⟩
  have hB3 : Below w.heap.size w w3 := hB.trans (hb3.mono hB.size)
  have e1 := (hB3.cell (p := ⟨T, 1, none⟩) hT).trans c1
  clear hB hb3 c0 c1 c2 c3 c4
  go_wp2_with fail
  go_quiet (fail)
  go_upto_if 70 with fail
  go_cut [9] (fun v wc => v = .string (effOf b) ∧ w3.drewN nq = wc)
  case first =>
    cases hb : (b.toList == [125]) with
    | true =>
      have he : effOf b = effA := if_pos hb
      go_wp2
      go_meet
      case rel => exact ⟨by rw [he]; rfl, rfl⟩
    | false =>
      have he : effOf b = effB := if_neg (by rw [hb]; exact Bool.false_ne_true)
      go_wp2
      go_meet
      case rel => exact ⟨by rw [he]; rfl, rfl⟩
  case rest =>
    obtain ⟨rfl, rfl⟩ := hcut
    have hcz : (cCR ++ b).size ≤ 2097152 := by
      rw [ByteArray.size_append]
      have : cCR.size = 82 := by kernel_rfl
      omega
    have hM := misbyte_any line (cCR ++ b) (effOf b) hcz (eff_size b) (w3.drewN nq)
    have hB4 := below_drewN hB3 nq
    generalize w3.drewN nq = w4 at *
    go_wp2_with fail
    refine hM.mono ?_
    rintro e w5 ⟨d, rfl, hd1, hd2, hd3, hb5⟩
    go_wp2
    go_ret
    exact ⟨d, rfl, Nat.le_trans hB4.size hd1, hd2, hd3, hB4.trans (hb5.mono hB4.size)⟩

set_option maxRecDepth 100000 in
set_option maxHeartbeats 1600000 in
theorem two_miss (T cap : Nat) (s b : ByteArray) (line q : Int) (bom : Bool) (line2 q2 : Int) (bom2 : Bool) (hs : s.size ≤ 1048577) (w : World) (ht : TokAt w T 0 s line q bom false) (ht2 : TokAt w T 5 crB line2 q2 bom2 true) (_hT : T < w.heap.size) (hne : ((bareOf s bom false).toList == b.toList) = false) :
    Calls Try.prog 14 #[.slice (some ⟨T, 0, none⟩) 2 cap, .string b] w fun e w' => NRes w e w' := by
  obtain ⟨c0, c1, c2, c3, c4⟩ := ht
  simp only [Nat.zero_add] at c0 c1 c2 c3 c4
  obtain ⟨c5, c6, _, _, c9⟩ := ht2
  simp only [Nat.reduceAdd] at c5 c6 c9
  have HC := hide (fun w' => bare_any s line q bom false (by omega) w')
  have hcr : (crB.toList == [13]) = true := by rw [Lib.toList_data]; rfl
  generalize bareOf s bom false = y at *
  go_enter Try.func14, Try.ntmps14
  go_wp2_with fail
  have hB : Below w.heap.size w (w.alloc (.cells #[.string s, .int .i64 line, .int .u8 q, .bool bom, .bool false] 37)) := (Below.refl _ _).alloc (Nat.le_refl _) _
  generalize w.alloc (.cells #[.string s, .int .i64 line, .int .u8 q, .bool bom, .bool false] 37) = w2 at *
  refine (HC.out _).mono ?_
  rintro e w3 ⟨rfl, hb3⟩
  go_wp2
  go_ret
  exact ⟨rfl, hB.trans (hb3.mono hB.size)⟩

set_option maxRecDepth 100000 in
set_option maxHeartbeats 1600000 in
theorem two_hit (T cap : Nat) (s b : ByteArray) (line q : Int) (bom : Bool) (line2 q2 : Int) (bom2 : Bool) (hs : s.size ≤ 1048577) (hbz : b.size ≤ 1048576) (w : World) (ht : TokAt w T 0 s line q bom false) (ht2 : TokAt w T 5 crB line2 q2 bom2 true) (hT : T < w.heap.size) (hne : ((bareOf s bom false).toList == b.toList) = true) :
    Calls Try.prog 14 #[.slice (some ⟨T, 0, none⟩) 2 cap, .string b] w fun e w' => MRes w line2 (msgOf b) e w' := by
  obtain ⟨c0, c1, c2, c3, c4⟩ := ht
  simp only [Nat.zero_add] at c0 c1 c2 c3 c4
  obtain ⟨c5, c6, _, _, c9⟩ := ht2
  simp only [Nat.reduceAdd] at c5 c6 c9
  have HC := hide (fun w' => bare_any s line q bom false (by omega) w')
  have hcr : (crB.toList == [13]) = true := by rw [Lib.toList_data]; rfl
  generalize bareOf s bom false = y at *
  go_enter Try.func14, Try.ntmps14
  go_wp2_with fail
  have hB : Below w.heap.size w (w.alloc (.cells #[.string s, .int .i64 line, .int .u8 q, .bool bom, .bool false] 37)) := (Below.refl _ _).alloc (Nat.le_refl _) _
  generalize w.alloc (.cells #[.string s, .int .i64 line, .int .u8 q, .bool bom, .bool false] 37) = w2 at *
  refine (HC.out _).mono ?_
  rintro e w3 ⟨rfl, hb3⟩
  have hB3 : Below w.heap.size w w3 := hB.trans (hb3.mono hB.size)
  have e1 := (hB3.cell (p := ⟨T, 6, none⟩) hT).trans c6
  clear hB hb3 c0 c1 c2 c3 c4 c5 c6 c9
  go_wp2_with fail
  go_quiet (fail)
  go_upto_if 70 with fail
  go_cut [9] (fun v wc => v = .string (effOf b) ∧ w3.drewN nq = wc)
  case first =>
    cases hb : (b.toList == [125]) with
    | true =>
      have he : effOf b = effA := if_pos hb
      go_wp2
      go_meet
      case rel => exact ⟨by rw [he]; rfl, rfl⟩
    | false =>
      have he : effOf b = effB := if_neg (by rw [hb]; exact Bool.false_ne_true)
      go_wp2
      go_meet
      case rel => exact ⟨by rw [he]; rfl, rfl⟩
  case rest =>
    obtain ⟨rfl, rfl⟩ := hcut
    have hcz : (cCR ++ b).size ≤ 2097152 := by
      rw [ByteArray.size_append]
      have : cCR.size = 82 := by kernel_rfl
      omega
    have hM := misbyte_any line2 (cCR ++ b) (effOf b) hcz (eff_size b) (w3.drewN nq)
    have hB4 := below_drewN hB3 nq
    generalize w3.drewN nq = w4 at *
    go_wp2_with fail
    refine hM.mono ?_
    rintro e w5 ⟨d, rfl, hd1, hd2, hd3, hb5⟩
    go_wp2
    go_ret
    exact ⟨d, rfl, Nat.le_trans hB4.size hd1, hd2, hd3, hB4.trans (hb5.mono hB4.size)⟩


end Go.Proofs.Qxb6618014a
