/-
  FnMisreadBraceCarriageReturnInOrBesideToken: the walk.
-/
import Derived.Test.Qxb6618014aZz
namespace Go.Proofs.Qxb6618014a
open Go.RowKit

theorem msg_is (b : ByteArray) : msgOf b = (cCR ++ b) ++ (cTail ++ effOf b) := by
  unfold msgOf
  rw [← tail_is]
  simp only [ByteArray.append_assoc]

/-- a diagnostic is handed back -/
def Hit (w : World) (line : Int) (msg : ByteArray) (v : Value) (w' : World) : Prop := ∃ d, v = .pointer (some ⟨d, 0, none⟩) ∧ d < w'.heap.size ∧ DiagAt w' d line msg ∧ Below w.heap.size w w'
/-- nil is handed back -/
def Miss (w : World) (v : Value) (w' : World) : Prop := v = .pointer none ∧ Below w.heap.size w w'

theorem rv_hit {w w1 w2 : World} {line : Int} {msg : ByteArray} {e : Ending} (hb : Below w.heap.size w w1) (h : MRes w1 line msg e w2) : RV (Hit w line msg) e w2 := by
  obtain ⟨d, rfl, h1, h2, h3, h4⟩ := h
  exact ⟨_, rfl, d, rfl, h2, h3, hb.trans (h4.mono hb.size)⟩
theorem rv_miss {w w1 w2 : World} {e : Ending} (hb : Below w.heap.size w w1) (h : NRes w1 e w2) : RV (Miss w) e w2 := by
  obtain ⟨rfl, h4⟩ := h
  exact ⟨_, rfl, rfl, hb.trans (h4.mono hb.size)⟩

theorem joined_hit (A : Nat) (x b : ByteArray) (line q : Int) (bom : Bool) (hx : x.size ≤ 524288) (hb : b.size ≤ 524288) (w : World) (ht : TokAt w A 0 (x ++ crB) line q bom true) (hA : A < w.heap.size) (he : ((withM x bom).toList == b.toList) = true) :
    Calls Try.prog 7 #[.slice (some ⟨A, 0, none⟩) 1 1, .string b] w fun e w' => RV (Hit w line (msgOf b)) e w' :=
  zz1 A (x ++ crB) b line q bom _ w ht hA fun w' T cap hb' ht' hT' =>
    (one_hit T cap (x ++ crB) b line q bom (by rw [ByteArray.size_append]; have : crB.size = 1 := rfl; omega) (by omega) w' ht' hT' (by rw [joined_bare]; exact he)).mono fun _ _ h => rv_hit hb' h
theorem joined_miss (A : Nat) (x b : ByteArray) (line q : Int) (bom : Bool) (hx : x.size ≤ 524288) (w : World) (ht : TokAt w A 0 (x ++ crB) line q bom true) (hA : A < w.heap.size) (he : ((withM x bom).toList == b.toList) = false) :
    Calls Try.prog 7 #[.slice (some ⟨A, 0, none⟩) 1 1, .string b] w fun e w' => RV (Miss w) e w' :=
  zz1 A (x ++ crB) b line q bom _ w ht hA fun w' T cap hb' ht' hT' =>
    (one_miss T cap (x ++ crB) b line q bom (by rw [ByteArray.size_append]; have : crB.size = 1 := rfl; omega) w' ht' hT' (by rw [joined_bare]; exact he)).mono fun _ _ h => rv_miss hb' h
theorem apart_hit (A : Nat) (x b : ByteArray) (line q : Int) (bom : Bool) (line2 q2 : Int) (bom2 : Bool) (hx : x.size ≤ 524288) (hb : b.size ≤ 524288) (w : World) (ht : TokAt w A 0 x line q bom false) (ht2 : TokAt w A 5 crB line2 q2 bom2 true) (hA : A < w.heap.size) (he : ((withM x bom).toList == b.toList) = true) :
    Calls Try.prog 7 #[.slice (some ⟨A, 0, none⟩) 2 2, .string b] w fun e w' => RV (Hit w line2 (msgOf b)) e w' :=
  zz2 A x b line q bom line2 q2 bom2 _ w ht ht2 hA fun w' T cap hb' ht' ht2' hT' =>
    (two_hit T cap x b line q bom line2 q2 bom2 (by omega) (by omega) w' ht' ht2' hT' he).mono fun _ _ h => rv_hit hb' h
theorem apart_miss (A : Nat) (x b : ByteArray) (line q : Int) (bom : Bool) (line2 q2 : Int) (bom2 : Bool) (hx : x.size ≤ 524288) (w : World) (ht : TokAt w A 0 x line q bom false) (ht2 : TokAt w A 5 crB line2 q2 bom2 true) (hA : A < w.heap.size) (he : ((withM x bom).toList == b.toList) = false) :
    Calls Try.prog 7 #[.slice (some ⟨A, 0, none⟩) 2 2, .string b] w fun e w' => RV (Miss w) e w' :=
  zz2 A x b line q bom line2 q2 bom2 _ w ht ht2 hA fun w' T cap hb' ht' ht2' hT' =>
    (two_miss T cap x b line q bom line2 q2 bom2 (by omega) w' ht' ht2' hT' he).mono fun _ _ h => rv_miss hb' h

theorem tok_at (w : World) (C : Array Value) (o : Nat) (s : ByteArray) (line q : Int) (bom cr : Bool) (h0 : C[o]? = some (.string s)) (h1 : C[o + 1]? = some (.int .i64 line)) (h2 : C[o + 2]? = some (.int .u8 q)) (h3 : C[o + 3]? = some (.bool bom)) (h4 : C[o + 4]? = some (.bool cr)) (t : TypeId) : TokAt (w.alloc (.cells C t)) w.heap.size o s line q bom cr := tok_new w C o s line q bom cr h0 h1 h2 h3 h4 t 0

theorem DiagAt.below {w w' : World} {d : Nat} {line : Int} {msg : ByteArray} (h : DiagAt w d line msg) (hd : d < w.heap.size) (hb : Below w.heap.size w w') : DiagAt w' d line msg :=
  ⟨(hb.cell (p := ⟨d, 0, none⟩) hd).trans h.1, (hb.cell (p := ⟨d, 1, none⟩) hd).trans h.2.1, (hb.cell (p := ⟨d, 2, none⟩) hd).trans h.2.2⟩

set_option maxRecDepth 100000 in
set_option maxHeartbeats 3200000 in
theorem law_any (x : ByteArray) (line q : Int) (bom : Bool) (line2 q2 : Int) (bom2 : Bool) (b : ByteArray) (hx : x.size ≤ maxLen) (hb : b.size ≤ maxLen) (w : World) :
    Calls Try.prog 3 #[.string x, .int .i64 line, .int .u8 q, .bool bom, .int .i64 line2, .int .u8 q2, .bool bom2, .string b] w fun e w' => e = .returned (.bool true) ∧ Below w.heap.size w w' := by
  go_enter Try.func3, Try.ntmps3
  go_wp2_with fail
  refine (bytes_any x b _ _ _ _ _ _ hx hb w).mono ?_
  rintro e w' ⟨ok, rfl, rfl⟩
  cases ok with
  | false =>
    go_wp2
    go_ret
    exact ⟨rfl, Below.refl _ _⟩
  | true =>
    by_cases g1 : (524288 : Int) < x.size
    · go_wp2
      go_ret
      exact ⟨rfl, Below.refl _ _⟩
    by_cases g2 : (524288 : Int) < b.size
    · go_wp2
      go_ret
      exact ⟨rfl, Below.refl _ _⟩
    have d1 : decide ((524288 : Int) < (x.size : Int)) = false := by simp; omega
    have d2 : decide ((524288 : Int) < (b.size : Int)) = false := by simp; omega
    have hxs : x.size ≤ 524288 := by omega
    have hbs : b.size ≤ 524288 := by omega
    have HM := hide (fun w' => mark_any x bom (by omega) w')
    cases he : ((withM x bom).toList == b.toList) with
    | false =>
      have HJ := hide (fun w' A ht hA => joined_miss A x b line q bom hxs w' ht hA he)
      have HP := hide (fun w' A ht ht2 hA => apart_miss A x b line q bom line2 q2 bom2 hxs w' ht ht2 hA he)
      generalize withM x bom = y at *
      go_wp2_with fail
      have hB1 : Below w.heap.size w (w.alloc (.cells #[.string (x ++ ⟨#[13]⟩), .int .i64 line, .int .u8 q, .bool bom, .bool true] 26)) := (Below.refl _ _).alloc (Nat.le_refl _) _
      have hK1 := tok_at w #[.string (x ++ ⟨#[13]⟩), .int .i64 line, .int .u8 q, .bool bom, .bool true] 0 (x ++ crB) line q bom true rfl rfl rfl rfl rfl 26
      have hl1 : w.heap.size < (w.alloc (.cells #[.string (x ++ ⟨#[13]⟩), .int .i64 line, .int .u8 q, .bool bom, .bool true] 26)).heap.size := by simp
      generalize w.alloc (.cells #[.string (x ++ ⟨#[13]⟩), .int .i64 line, .int .u8 q, .bool bom, .bool true] 26) = w1 at *
      refine (HJ.out w1 _ hK1 hl1).mono ?_
      rintro e w2 ⟨v, rfl, rfl, hb2⟩
      have hB2 : Below w.heap.size w w2 := hB1.trans (hb2.mono hB1.size)
      clear hB1 hK1 hl1 hb2 HJ
      go_wp2_with fail
      have hB3 : Below w.heap.size w (w2.alloc (.cells #[.string x, .int .i64 line, .int .u8 q, .bool bom, .bool false, .string ⟨#[13]⟩, .int .i64 line2, .int .u8 q2, .bool bom2, .bool true] 26)) := hB2.alloc hB2.size _
      have hK1 := tok_at w2 #[.string x, .int .i64 line, .int .u8 q, .bool bom, .bool false, .string ⟨#[13]⟩, .int .i64 line2, .int .u8 q2, .bool bom2, .bool true] 0 x line q bom false rfl rfl rfl rfl rfl 26
      have hK2 := tok_at w2 #[.string x, .int .i64 line, .int .u8 q, .bool bom, .bool false, .string ⟨#[13]⟩, .int .i64 line2, .int .u8 q2, .bool bom2, .bool true] 5 crB line2 q2 bom2 true rfl rfl rfl rfl rfl 26
      have hl1 : w2.heap.size < (w2.alloc (.cells #[.string x, .int .i64 line, .int .u8 q, .bool bom, .bool false, .string ⟨#[13]⟩, .int .i64 line2, .int .u8 q2, .bool bom2, .bool true] 26)).heap.size := by simp
      generalize w2.alloc (.cells #[.string x, .int .i64 line, .int .u8 q, .bool bom, .bool false, .string ⟨#[13]⟩, .int .i64 line2, .int .u8 q2, .bool bom2, .bool true] 26) = w3 at *
      refine (HP.out w3 _ hK1 hK2 hl1).mono ?_
      rintro e w4 ⟨v, rfl, rfl, hb4⟩
      have hB4 : Below w.heap.size w w4 := hB3.trans (hb4.mono hB3.size)
      clear hB3 hK1 hK2 hl1 hb4 HP
      go_wp2_with fail
      refine (HM.out w4).mono ?_
      rintro e w5 ⟨rfl, hb5⟩
      have hB5 : Below w.heap.size w w5 := hB4.trans (hb5.mono hB4.size)
      go_wp2
      go_ret
      exact ⟨rfl, hB5⟩
    | true =>
      have HJ := hide (fun w' A ht hA => joined_hit A x b line q bom hxs hbs w' ht hA he)
      have HP := hide (fun w' A ht ht2 hA => apart_hit A x b line q bom line2 q2 bom2 hxs hbs w' ht ht2 hA he)
      have HW := hide (fun w' => crmsg_any b (by omega) w')
      rw [← msg_is] at HW
      generalize withM x bom = y at *
      generalize msgOf b = M at *
      have hMM : (M.toList == M.toList) = true := by simp
      have hl0 : (line == line) = true := by simp
      have hl2 : (line2 == line2) = true := by simp
      go_wp2_with fail
      have hB1 : Below w.heap.size w (w.alloc (.cells #[.string (x ++ ⟨#[13]⟩), .int .i64 line, .int .u8 q, .bool bom, .bool true] 26)) := (Below.refl _ _).alloc (Nat.le_refl _) _
      have hK1 := tok_at w #[.string (x ++ ⟨#[13]⟩), .int .i64 line, .int .u8 q, .bool bom, .bool true] 0 (x ++ crB) line q bom true rfl rfl rfl rfl rfl 26
      have hl1 : w.heap.size < (w.alloc (.cells #[.string (x ++ ⟨#[13]⟩), .int .i64 line, .int .u8 q, .bool bom, .bool true] 26)).heap.size := by simp
      generalize w.alloc (.cells #[.string (x ++ ⟨#[13]⟩), .int .i64 line, .int .u8 q, .bool bom, .bool true] 26) = w1 at *
      refine (HJ.out w1 _ hK1 hl1).mono ?_
      rintro e w2 ⟨v, rfl, p1, rfl, hp1, hD1, hb2⟩
      have hB2 : Below w.heap.size w w2 := hB1.trans (hb2.mono hB1.size)
      clear hB1 hK1 hl1 hb2 HJ
      go_wp2_with fail
      have hB3 : Below w2.heap.size w2 (w2.alloc (.cells #[.string x, .int .i64 line, .int .u8 q, .bool bom, .bool false, .string ⟨#[13]⟩, .int .i64 line2, .int .u8 q2, .bool bom2, .bool true] 26)) := (Below.refl _ _).alloc (Nat.le_refl _) _
      have hK1 := tok_at w2 #[.string x, .int .i64 line, .int .u8 q, .bool bom, .bool false, .string ⟨#[13]⟩, .int .i64 line2, .int .u8 q2, .bool bom2, .bool true] 0 x line q bom false rfl rfl rfl rfl rfl 26
      have hK2 := tok_at w2 #[.string x, .int .i64 line, .int .u8 q, .bool bom, .bool false, .string ⟨#[13]⟩, .int .i64 line2, .int .u8 q2, .bool bom2, .bool true] 5 crB line2 q2 bom2 true rfl rfl rfl rfl rfl 26
      have hl1 : w2.heap.size < (w2.alloc (.cells #[.string x, .int .i64 line, .int .u8 q, .bool bom, .bool false, .string ⟨#[13]⟩, .int .i64 line2, .int .u8 q2, .bool bom2, .bool true] 26)).heap.size := by simp
      generalize w2.alloc (.cells #[.string x, .int .i64 line, .int .u8 q, .bool bom, .bool false, .string ⟨#[13]⟩, .int .i64 line2, .int .u8 q2, .bool bom2, .bool true] 26) = w3 at *
      refine (HP.out w3 _ hK1 hK2 hl1).mono ?_
      rintro e w4 ⟨v, rfl, p2, rfl, hp2, hD2, hb4⟩
      have hB4 : Below w2.heap.size w2 w4 := hB3.trans (hb4.mono hB3.size)
      clear hB3 hK1 hK2 hl1 hb4 HP
      go_wp2_with fail
      refine (HM.out w4).mono ?_
      rintro e w5 ⟨rfl, hb5⟩
      have hB5 : Below w2.heap.size w2 w5 := hB4.trans (hb5.mono hB4.size)
      obtain ⟨a0, a1, a2⟩ := hD1.below hp1 hB5
      obtain ⟨b0, b1, b2⟩ := hD2.below hp2 hb5
      have hBe : Below w.heap.size w w5 := hB2.trans (hB5.mono hB2.size)
      clear hD1 hD2 hB4 hb5 hB5 HM
      go_wp2_with fail
      refine (HW.out w5).mono ?_
      rintro e w6 ⟨rfl, rfl⟩
      go_wp2
      go_ret
      exact ⟨rfl, hBe⟩

end Go.Proofs.Qxb6618014a
