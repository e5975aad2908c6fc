/-
  ZZMisreadBrace: the walks.
-/
import Derived.Test.Qxb6618014aBrace
namespace Go.Proofs.Qxb6618014a
open Go.RowKit

theorem make1 (w : World) : (Instr.makeSlice 35 (.int .i64 1) (.int .i64 1)).run Try.prog w = .ok (.slice (some ⟨w.heap.size, 0, none⟩) 1 1) (w.alloc (.cells #[.string ⟨#[]⟩, .int .i64 0, .int .u8 0, .bool false, .bool false] 37)) := by kernel_rfl
theorem make2 (w : World) : (Instr.makeSlice 35 (.int .i64 2) (.int .i64 2)).run Try.prog w = .ok (.slice (some ⟨w.heap.size, 0, none⟩) 2 2) (w.alloc (.cells #[.string ⟨#[]⟩, .int .i64 0, .int .u8 0, .bool false, .bool false, .string ⟨#[]⟩, .int .i64 0, .int .u8 0, .bool false, .bool false] 37)) := by kernel_rfl

/-- it returns a value of which R -/
def RV (R : Value → World → Prop) (e : Ending) (w' : World) : Prop := ∃ v, e = .returned v ∧ R v w'

theorem tok_new (w : World) (C : Array Value) (o : Nat) (s : ByteArray) (line q : Int) (bom cr : Bool) (h0 : C[o]? = some (.string s)) (h1 : C[o + 1]? = some (.int .i64 line)) (h2 : C[o + 2]? = some (.int .u8 q)) (h3 : C[o + 3]? = some (.bool bom)) (h4 : C[o + 4]? = some (.bool cr)) (t : TypeId) (m : Nat) : TokAt ((w.alloc (.cells C t)).drewN m) w.heap.size o s line q bom cr := by
  have hc : ∀ j, ((w.alloc (.cells C t)).drewN m).cell? ⟨w.heap.size, j, none⟩ = C[j]? := fun j => cell_of_row _ _ j _ _ _ (heap_alloc_new w _)
  exact ⟨(hc _).trans h0, (hc _).trans h1, (hc _).trans h2, (hc _).trans h3, (hc _).trans h4⟩

set_option maxRecDepth 100000 in
set_option maxHeartbeats 1600000 in
theorem zz1 (A : Nat) (s b : ByteArray) (line q : Int) (bom : Bool) (R : Value → World → Prop) (w : World) (ht : TokAt w A 0 s line q bom true) (_hA : A < w.heap.size)
    (hR : ∀ w' T cap, Below w.heap.size w w' → TokAt w' T 0 s line q bom true → T < w'.heap.size → Calls Try.prog 14 #[.slice (some ⟨T, 0, none⟩) 1 cap, .string b] w' fun e w'' => RV R e w'') :
    Calls Try.prog 7 #[.slice (some ⟨A, 0, none⟩) 1 1, .string b] w fun e w' => RV R e w' := by
  obtain ⟨c0, c1, c2, c3, c4⟩ := ht
  simp only [Nat.zero_add] at c0 c1 c2 c3 c4
  have HR := hide hR
  clear hR
  go_enter Try.func7, Try.ntmps7
  have hmk := make1
  go_wp2_with fail
  clear hmk
  go_loopw [6] (fun i wr => (i = .int .i64 0 ∧ wr = w.alloc (.cells #[.string ⟨#[]⟩, .int .i64 0, .int .u8 0, .bool false, .bool false] 37)) ∨ (i = .int .i64 1 ∧ ∃ m, wr = (w.alloc (.cells #[.string s, .int .i64 line, .int .u8 q, .bool bom, .bool true] 37)).drewN m)) (fun i _ => 1 - (intOf i).toNat)
  case atStart => exact Or.inl ⟨rfl, rfl⟩
  case round =>
    rcases hrel with ⟨rfl, rfl⟩ | ⟨rfl, m, rfl⟩
    · go_wp2_with fail
      go_region_held3 (fun w' => w'.cell? ⟨A, 0, none⟩ = some (.string s) ∧ w'.cell? ⟨A, 1, none⟩ = some (.int .i64 line) ∧ w'.cell? ⟨A, 2, none⟩ = some (.int .u8 q) ∧ w'.cell? ⟨A, 3, none⟩ = some (.bool bom) ∧ w'.cell? ⟨A, 4, none⟩ = some (.bool true)) (go_keep) (fail)
      go_wp2
      go_roundw
      case rel => exact Or.inr ⟨by go_num, 1, rfl⟩
      case measure => simp [intOf]
    · go_wp2_with fail
      have hB : Below w.heap.size w ((w.alloc (.cells #[.string s, .int .i64 line, .int .u8 q, .bool bom, .bool true] 37)).drewN m) := below_drewN ((Below.refl _ _).alloc (Nat.le_refl _) _) _
      have hK := tok_new w #[.string s, .int .i64 line, .int .u8 q, .bool bom, .bool true] 0 s line q bom true rfl rfl rfl rfl rfl 37 m
      have hl : w.heap.size < ((w.alloc (.cells #[.string s, .int .i64 line, .int .u8 q, .bool bom, .bool true] 37)).drewN m).heap.size := by simp
      generalize (w.alloc (.cells #[.string s, .int .i64 line, .int .u8 q, .bool bom, .bool true] 37)).drewN m = w2 at *
      refine (HR.out w2 _ _ hB hK hl).mono ?_
      rintro e w3 ⟨v, rfl, hv⟩
      have HV := hide hv
      clear hv hK
      go_wp2
      go_ret
      exact ⟨v, rfl, HV.out⟩

set_option maxRecDepth 100000 in
set_option maxHeartbeats 3200000 in
theorem zz2 (A : Nat) (s b : ByteArray) (line q : Int) (bom : Bool) (line2 q2 : Int) (bom2 : Bool) (R : Value → World → Prop) (w : World) (ht : TokAt w A 0 s line q bom false) (ht2 : TokAt w A 5 crB line2 q2 bom2 true) (_hA : A < w.heap.size)
    (hR : ∀ w' T cap, Below w.heap.size w w' → TokAt w' T 0 s line q bom false → TokAt w' T 5 crB line2 q2 bom2 true → T < w'.heap.size → Calls Try.prog 14 #[.slice (some ⟨T, 0, none⟩) 2 cap, .string b] w' fun e w'' => RV R e w'') :
    Calls Try.prog 7 #[.slice (some ⟨A, 0, none⟩) 2 2, .string b] w fun e w' => RV R e w' := by
  obtain ⟨c0, c1, c2, c3, c4⟩ := ht
  simp only [Nat.zero_add] at c0 c1 c2 c3 c4
  obtain ⟨c5, c6, c7, c8, c9⟩ := ht2
  simp only [Nat.reduceAdd] at c5 c6 c7 c8 c9
  have HR := hide hR
  clear hR
  go_enter Try.func7, Try.ntmps7
  have hmk := make2
  go_wp2_with fail
  clear hmk
  go_loopw [6] (fun i wr => (i = .int .i64 0 ∧ wr = w.alloc (.cells #[.string ⟨#[]⟩, .int .i64 0, .int .u8 0, .bool false, .bool false, .string ⟨#[]⟩, .int .i64 0, .int .u8 0, .bool false, .bool false] 37)) ∨ (i = .int .i64 1 ∧ wr = (w.alloc (.cells #[.string s, .int .i64 line, .int .u8 q, .bool bom, .bool false, .string ⟨#[]⟩, .int .i64 0, .int .u8 0, .bool false, .bool false] 37)).drew) ∨ (i = .int .i64 2 ∧ wr = (w.alloc (.cells #[.string s, .int .i64 line, .int .u8 q, .bool bom, .bool false, .string crB, .int .i64 line2, .int .u8 q2, .bool bom2, .bool true] 37)).drew.drew)) (fun i _ => 2 - (intOf i).toNat)
  case atStart => exact Or.inl ⟨rfl, rfl⟩
  case round =>
    rcases hrel with ⟨rfl, rfl⟩ | ⟨rfl, rfl⟩ | ⟨rfl, rfl⟩
    · go_wp2_with fail
      go_region_held3 (fun w' => w'.cell? ⟨A, 0, none⟩ = some (.string s) ∧ w'.cell? ⟨A, 1, none⟩ = some (.int .i64 line) ∧ w'.cell? ⟨A, 2, none⟩ = some (.int .u8 q) ∧ w'.cell? ⟨A, 3, none⟩ = some (.bool bom) ∧ w'.cell? ⟨A, 4, none⟩ = some (.bool false)) (go_keep) (fail)
      go_wp2
      go_roundw
      case rel => exact Or.inr (Or.inl ⟨by go_num, by first | trivial | rfl⟩)
      case measure => simp [intOf]
    · go_wp2_with fail
      go_region_held3 (fun w' => w'.cell? ⟨A, 5, none⟩ = some (.string crB) ∧ w'.cell? ⟨A, 6, none⟩ = some (.int .i64 line2) ∧ w'.cell? ⟨A, 7, none⟩ = some (.int .u8 q2) ∧ w'.cell? ⟨A, 8, none⟩ = some (.bool bom2) ∧ w'.cell? ⟨A, 9, none⟩ = some (.bool true)) (go_keep) (fail)
      go_wp2
      go_roundw
      case rel => exact Or.inr (Or.inr ⟨by go_num, by first | trivial | rfl⟩)
      case measure => simp [intOf]
    · go_wp2_with fail
      have hB : Below w.heap.size w ((w.alloc (.cells #[.string s, .int .i64 line, .int .u8 q, .bool bom, .bool false, .string crB, .int .i64 line2, .int .u8 q2, .bool bom2, .bool true] 37)).drew.drew) := ((Below.refl _ _).alloc (Nat.le_refl _) _).drew.drew
      have hK : TokAt (w.alloc (.cells #[.string s, .int .i64 line, .int .u8 q, .bool bom, .bool false, .string crB, .int .i64 line2, .int .u8 q2, .bool bom2, .bool true] 37)).drew.drew w.heap.size 0 s line q bom false := tok_new w #[.string s, .int .i64 line, .int .u8 q, .bool bom, .bool false, .string crB, .int .i64 line2, .int .u8 q2, .bool bom2, .bool true] 0 s line q bom false rfl rfl rfl rfl rfl 37 2
      have hK2 : TokAt (w.alloc (.cells #[.string s, .int .i64 line, .int .u8 q, .bool bom, .bool false, .string crB, .int .i64 line2, .int .u8 q2, .bool bom2, .bool true] 37)).drew.drew w.heap.size 5 crB line2 q2 bom2 true := tok_new w #[.string s, .int .i64 line, .int .u8 q, .bool bom, .bool false, .string crB, .int .i64 line2, .int .u8 q2, .bool bom2, .bool true] 5 crB line2 q2 bom2 true rfl rfl rfl rfl rfl 37 2
      have hl : w.heap.size < (w.alloc (.cells #[.string s, .int .i64 line, .int .u8 q, .bool bom, .bool false, .string crB, .int .i64 line2, .int .u8 q2, .bool bom2, .bool true] 37)).drew.drew.heap.size := by simp
      generalize (w.alloc (.cells #[.string s, .int .i64 line, .int .u8 q, .bool bom, .bool false, .string crB, .int .i64 line2, .int .u8 q2, .bool bom2, .bool true] 37)).drew.drew = w2 at *
      refine (HR.out w2 _ _ hB hK hK2 hl).mono ?_
      rintro e w3 ⟨v, rfl, hv⟩
      have HV := hide hv
      clear hv hK hK2
      go_wp2
      go_ret
      exact ⟨v, rfl, HV.out⟩

end Go.Proofs.Qxb6618014a
