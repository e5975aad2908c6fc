/-
  The leaves: guards, texts.
-/
import Derived.Test.Qxb6618014aProg
import Derived.WalkKit
import Derived.WalkSpells
import Derived.Deep.QuietTactic
import Derived.BigQuiet
import Derived.WalkSmall
namespace Go.Proofs.Qxb6618014a
open Go.RowKit

theorem hide {p : Prop} (h : p) : Hid p := h

def Bl (w : World) (e : Ending) (w' : World) : Prop := ∃ b : Bool, e = .returned (.bool b) ∧ w = w'

set_option maxHeartbeats 1600000 in
theorem bytes_any (x b : ByteArray) (v1 v2 v3 v4 v5 v6 : Value) (hx : x.size ≤ maxLen) (hb : b.size ≤ maxLen) (w : World) : Calls Try.prog 6 #[.string x, v1, v2, v3, v4, v5, v6, .string b] w fun e w' => Bl w e w' := by
  unfold maxLen at hx hb
  go_enter Try.func6, Try.ntmps6
  go_wp2
  all_goals
    go_ret
    exact ⟨_, rfl, rfl⟩

def cCR : ByteArray := ⟨([97, 32, 99, 97, 114, 114, 105, 97, 103, 101, 32, 114, 101, 116, 117, 114, 110, 44, 32, 116, 104, 101, 32, 102, 105, 114, 115, 116, 32, 98, 121, 116, 101, 32, 111, 102, 32, 97, 32, 87, 105].append [110, 100, 111, 119, 115, 32, 108, 105, 110, 101, 32, 101, 110, 100, 44, 32, 101, 110, 100, 115, 32, 116, 104, 105, 115, 32, 108, 105, 110, 101, 32, 97, 102, 116, 101, 114, 32, 116, 104, 101, 32]).toArray⟩
def cTail : ByteArray := ⟨#[44, 32, 97, 110, 100, 32, 116, 104, 101, 32, 100, 105, 97, 108, 101, 99, 116, 32, 114, 101, 97, 100, 115, 32, 105, 116, 32, 97, 115, 32, 116, 101, 120, 116, 44, 32, 110, 111, 116, 32, 97, 115, 32, 97, 32, 98, 108, 97, 110, 107, 44, 32, 115, 111, 32]⟩
def cAs : ByteArray := ⟨#[44, 32, 97, 110, 100, 32, 116, 104, 101, 32, 100, 105, 97, 108, 101, 99, 116, 32, 114, 101, 97, 100, 115, 32, 105, 116, 32, 97, 115, 32, 116, 101, 120, 116, 44, 32, 110, 111, 116, 32, 97, 115, 32]⟩
def cBlank : ByteArray := ⟨#[97, 32, 98, 108, 97, 110, 107]⟩
def cSo : ByteArray := ⟨#[44, 32, 115, 111, 32]⟩
def effA : ByteArray := ⟨#[116, 104, 101, 32, 115, 116, 97, 110, 122, 97, 32, 100, 111, 101, 115, 32, 110, 111, 116, 32, 101, 110, 100, 32, 104, 101, 114, 101]⟩
def effB : ByteArray := ⟨#[110, 111, 32, 115, 116, 97, 110, 122, 97, 32, 98, 101, 103, 105, 110, 115, 32, 104, 101, 114, 101]⟩
def effOf (b : ByteArray) : ByteArray := if (b.toList == [125]) = true then effA else effB

theorem eff_size (b : ByteArray) : (effOf b).size ≤ 100 := by
  unfold effOf
  split <;> decide
theorem tail_size (b : ByteArray) : (cTail ++ effOf b).size ≤ 200 := by
  rw [ByteArray.size_append]
  have h1 := eff_size b
  have h2 : cTail.size = 55 := by kernel_rfl
  omega

theorem tail_is : cAs ++ cBlank ++ cSo = cTail := by kernel_rfl

set_option maxHeartbeats 1600000 in
theorem effect_any (b : ByteArray) (w : World) : Calls Try.prog 21 #[.string b] w fun e w' => e = .returned (.string (effOf b)) ∧ w = w' := by
  cases hb : (b.toList == [125]) with
  | true =>
    have he : effOf b = effA := if_pos hb
    rw [he]
    go_enter Try.func21, Try.ntmps21
    go_wp2
    go_ret
    exact ⟨rfl, rfl⟩
  | false =>
    have he : effOf b = effB := if_neg (by rw [hb]; exact Bool.false_ne_true)
    rw [he]
    go_enter Try.func21, Try.ntmps21
    go_wp2
    go_ret
    exact ⟨rfl, rfl⟩

set_option maxHeartbeats 1600000 in
theorem tail_any (b : ByteArray) (w : World) : Calls Try.prog 16 #[.string b] w fun e w' => e = .returned (.string (cTail ++ effOf b)) ∧ w = w' := by
  have c := effect_any b w
  have hef := eff_size b
  generalize effOf b = ef at *
  go_enter Try.func16, Try.ntmps16
  go_wp2_with fail
  refine c.mono ?_
  rintro e w' ⟨rfl, rfl⟩
  go_wp2
  go_ret
  exact ⟨rfl, rfl⟩

set_option maxHeartbeats 1600000 in
theorem crmsg_any (b : ByteArray) (hb : b.size ≤ 1048576) (w : World) : Calls Try.prog 9 #[.string b] w fun e w' => e = .returned (.string ((cCR ++ b) ++ (cTail ++ effOf b))) ∧ w = w' := by
  have c := tail_any b w
  have hef := tail_size b
  generalize cTail ++ effOf b = ef at *
  go_enter Try.func9, Try.ntmps9
  go_wp2_with fail
  refine c.mono ?_
  rintro e w' ⟨rfl, rfl⟩
  go_wp2
  go_ret
  exact ⟨rfl, rfl⟩

set_option maxHeartbeats 1600000 in
theorem unseen_any (c s f : ByteArray) (hc : c.size ≤ 2097152) (hs : s.size ≤ 100) (hf : f.size ≤ 100) (w : World) : Calls Try.prog 28 #[.string c, .string s, .string f] w fun e w' => e = .returned (.string (((c ++ cAs) ++ s) ++ cSo ++ f)) ∧ w = w' := by
  go_enter Try.func28, Try.ntmps28
  go_wp2
  go_ret
  exact ⟨rfl, rfl⟩

theorem Try.info31 : (Try.prog.info? 31).map (·.size) = some 3 := by kernel_rfl

/-- THE DIAGNOSTIC AS IT LIES -/
def DiagAt (w : World) (d : Nat) (line : Int) (msg : ByteArray) : Prop :=
  w.cell? ⟨d, 0, none⟩ = some (.string ⟨#[]⟩) ∧ w.cell? ⟨d, 1, none⟩ = some (.int .i64 line) ∧ w.cell? ⟨d, 2, none⟩ = some (.string msg)

def MRes (w : World) (line : Int) (msg : ByteArray) (e : Ending) (w' : World) : Prop :=
  ∃ d, e = .returned (.pointer (some ⟨d, 0, none⟩)) ∧ w.heap.size ≤ d ∧ d < w'.heap.size ∧ DiagAt w' d line msg ∧ Below w.heap.size w w'

set_option maxHeartbeats 1600000 in
theorem misbyte_any (line : Int) (c f : ByteArray) (hc : c.size ≤ 2097152) (hf : f.size ≤ 100) (w : World) : Calls Try.prog 20 #[.int .i64 line, .string c, .string f] w fun e w' => MRes w line (((c ++ cAs) ++ cBlank) ++ cSo ++ f) e w' := by
  have k := unseen_any c cBlank f hc (by decide) hf w
  generalize ((c ++ cAs) ++ cBlank) ++ cSo ++ f = m at *
  go_enter Try.func20, Try.ntmps20
  go_wp2_with fail
  refine k.mono ?_
  rintro e w' ⟨rfl, rfl⟩
  go_wp2
  go_ret
  refine ⟨w.heap.size, rfl, Nat.le_refl _, by simp, ⟨?_, ?_, ?_⟩, (Below.refl _ _).alloc (Nat.le_refl _) _⟩
  all_goals
    rw [cell_of_row _ _ _ _ _ _ (heap_alloc_new w _)]
    rfl

end Go.Proofs.Qxb6618014a
