/-
  (*names).number and ZZNamesNumber: the walks.
-/
import Derived.Test.Qxb6621657aTbl
import Derived.Deep.RegionHeld3
import Derived.Deep.DrawnRows
import Derived.Deep.RegionLaw
namespace Go.Proofs.Qxb6621657a
open Go.RowKit Go.Maps Go.ChangeMaps
attribute [local go_sem ↓] Go.wp_at_zero Go.wp_at_succ

/-- the struct names at block g -/
def NsAt (w : World) (g : Nat) (mv sv : Value) : Prop := w.heap[g]? = some (.cells #[mv, sv, .slice none 0 0, .slice none 0 0] 36 (0, 0))

/-- what number answers and leaves -/
def NumRes (w : World) (base g : Nat) (ms : List ByteArray) (name : ByteArray) (e : Ending) (w' : World) : Prop :=
  ∃ (i : Nat) (mv' sv' : Value) (ms' : List ByteArray), e = .returned (.int .i32 i) ∧ ms'[i]? = some name ∧ (ms' = ms ∨ (name ∉ ms ∧ ms' = ms ++ [name])) ∧ Tbl w' base mv' sv' ms' ∧ NsAt w' g mv' sv' ∧ Below base w w'

theorem NsAt.cells {w : World} {g : Nat} {mv sv : Value} (h : NsAt w g mv sv) : w.cell? ⟨g, 0, none⟩ = some mv ∧ w.cell? ⟨g, 1, none⟩ = some sv ∧ (∀ o, w.frozen? ⟨g, o, none⟩ = false) ∧ g < w.heap.size := by
  have h' : w.heap[g]? = _ := h
  exact ⟨by simp [World.cell?, h'], by simp [World.cell?, h'], fun o => by simp [World.frozen?, h'], (Array.getElem?_eq_some_iff.1 h).1⟩

theorem NsAt.apart {w : World} {g base : Nat} {mv sv : Value} {ms : List ByteArray} (h : NsAt w g mv sv) (hT : Tbl w base mv sv ms) : (∀ b, mv = .map (some b) → b ≠ g) ∧ sv.ownBlock ≠ some g := by
  have h' : w.heap[g]? = _ := h
  constructor
  · rintro b rfl rfl
    rcases hT.2.2.2 with ⟨e, _⟩ | ⟨b', D, e, _, ⟨es, clock, hb, _⟩, _⟩
    · cases e
    · cases e
      rw [h'] at hb
      cases hb
  · intro e
    rcases hT.1.2 with ⟨rfl, _⟩ | ⟨r, cap, cur, rfl, _, hr, _⟩
    · cases e
    · simp only [Value.ownBlock, Option.some.injEq] at e
      subst e
      rw [h'] at hr
      simp at hr

theorem Tbl.shape {w : World} {base : Nat} {mv sv : Value} {ms : List ByteArray} (h : Tbl w base mv sv ms) : ∃ sa scap, sv = .slice sa ms.length scap := by
  rcases h.1.2 with ⟨rfl, h0⟩ | ⟨r, cap, cur, rfl, _⟩
  · rw [h0]
    exact ⟨_, _, rfl⟩
  · exact ⟨_, _, rfl⟩

theorem grown_set (w : World) (g i : Nat) (v : Value) : w.grownBy (w.setCell ⟨g, i, none⟩ v) (some g) :=
  ⟨rfl, rfl, rfl, by simp [World.setCell], fun k _ hk => Below.heap_setCell _ _ _ _ (fun e => hk (by rw [e]))⟩

theorem setBlock_twice (w : World) (b : Nat) (x y : Obj) : setBlock (setBlock w b x) b y = setBlock w b y := by
  simp [setBlock]

/-- 'ns.numbers[name], ns.met = n, append(ns.met, name)', behind the append: the entry is made, filled, and the field stored -/
theorem commit {w00 w w1 : World} {base g b gg cap : Nat} {sv : Value} {ms : List ByteArray} {name : ByteArray} {o : Obj} (hT : Tbl w base (.map (some b)) sv ms) (hG : NsAt w g (.map (some b)) sv) (hbg : base ≤ g) (hmem : name ∉ ms) (hz : name.size ≤ maxLen) (hlen : ms.length ≤ 10000) (hB : Below base w00 w)
    (hown1 : w1.ownsRow base 9 1 (.slice (some ⟨gg, 0, none⟩) (ms.length + 1) cap) (ms.length + 1) (ms.map Value.string ++ [.string name])) (hgrow : (w.alloc o).drew.grownBy w1 sv.ownBlock) (hat : sv.ownBlock = some gg ∨ gg = w.heap.size + 1) :
    ∃ v0 st w2 w3, (Instr.mapEntry 25 (.map (some b)) (.string name)).run Try.prog w1 = .ok (.tuple #[v0, .int .i64 (st : Nat)]) w2 ∧ (Instr.entryStore 25 (.map (some b)) (.int .i64 (st : Nat)) (.int .i32 (ms.length : Nat))).run Try.prog w2 = .ok () w3 ∧
      w1.cell? ⟨g, 0, none⟩ = some (.map (some b)) ∧ w3.cell? ⟨g, 1, none⟩ = some sv ∧ w3.frozen? ⟨g, 1, none⟩ = false ∧
      Hid (NumRes w00 base g ms name (.returned (.int .i32 (ms.length : Nat))) (w3.setCell ⟨g, 1, none⟩ (.slice (some ⟨gg, 0, none⟩) (ms.length + 1) cap))) := by
  obtain ⟨hap1, hap2⟩ := hG.apart hT
  have hbg' : b ≠ g := hap1 b rfl
  have hgl : g < w.heap.size := hG.cells.2.2.2
  rcases hT.2.2.2 with ⟨e, _⟩ | ⟨b', D, e, hbb, hown, hD⟩
  · cases e
  cases e
  have hbl := hown.lt
  have hbs : some b ≠ sv.ownBlock := fun e => by
    rcases hT.1.2 with ⟨rfl, _⟩ | ⟨r, cap', cur, rfl, _, hr, _⟩
    · cases e
    · simp only [Value.ownBlock, Option.some.injEq] at e
      subst e
      obtain ⟨es, clock, hb, _⟩ := hown
      rw [hb] at hr
      cases hr
  have hsz : w.heap.size + 1 ≤ w1.heap.size := Nat.le_trans (by simp) hgrow.size
  have hto : w.grownBy w1 sv.ownBlock := (World.grownBy_alloc w o _).trans ⟨hgrow.os, hgrow.tape, hgrow.output, hgrow.size, hgrow.block⟩
  have hggb : gg ≠ b := fun e => by
    rcases hat with h | h
    · exact hbs (by rw [h, e])
    · omega
  have hggg : gg ≠ g := fun e => by
    rcases hat with h | h
    · exact hap2 (by rw [h, e])
    · omega
  have hown' := hown.kept hto hbs
  have hblk1 : w1.heap[g]? = w.heap[g]? := hto.block g hgl (fun e => hap2 e.symm)
  obtain ⟨w', hrun', hownP, hgr'⟩ := hown'.update law9 Try.underlying25 (by unfold maxLen; omega) (keyOf_kof hz) (plainElem_int (H := Unit) (a := (ms.length : Nat)) Try.underlying21 (WalkArith.wf_i32 (by omega)))
  have htidy := hown'.tidy law9
  obtain ⟨es, clock, hb, F, hs, hDe⟩ := hown'
  obtain ⟨v0, st, es1, clock1, hme, _, hstore⟩ := WideElems.entry_then_store klaw9 Try.underlying25 zero21 hb F (keyOf_kof hz)
  obtain ⟨es', clock', hes, hmu⟩ := hstore (setBlock w1 b (.map es1 clock1)) (.int .i32 (ms.length : Nat)) (heap_setBlock_same hb _)
  rw [setBlock_twice] at hes
  have ew : w' = setBlock w1 b (.map es' clock') := by
    rw [hrun'] at hmu
    injection hmu
  subst ew
  have hblk3 : (setBlock w1 b (.map es' clock')).heap[g]? = w.heap[g]? := (heap_setBlock_other hb _ (Ne.symm hbg')).trans hblk1
  have hG3 : NsAt (setBlock w1 b (.map es' clock')) g (.map (some b)) sv := hblk3.trans hG
  have hG1 : NsAt w1 g (.map (some b)) sv := hblk1.trans hG
  refine ⟨v0, st, _, _, hme, hes, hG1.cells.1, hG3.cells.2.1, hG3.cells.2.2.1 1, ?_⟩
  have hrow3 := hown1.kept hgr' (Or.inr (by simpa [Value.ownBlock] using hggb))
  have hrow4 := hrow3.kept (grown_set (setBlock w1 b (.map es' clock')) g 1 (.slice (some ⟨gg, 0, none⟩) (ms.length + 1) cap)) (Or.inr (by simpa [Value.ownBlock] using hggg))
  have hmap4 := hownP.kept (grown_set (setBlock w1 b (.map es' clock')) g 1 (.slice (some ⟨gg, 0, none⟩) (ms.length + 1) cap)) (by simpa using hbg')
  have hrow5 : (setBlock w1 b (.map es' clock') |>.setCell ⟨g, 1, none⟩ (.slice (some ⟨gg, 0, none⟩) (ms.length + 1) cap)).ownsRow base 9 1 (.slice (some ⟨gg, 0, none⟩) (ms.length + 1) cap) (ms ++ [name]).length ((ms ++ [name]).map Value.string) := by simpa using hrow4
  refine ⟨ms.length, .map (some b), _, ms ++ [name], rfl, by simp, Or.inr ⟨hmem, rfl⟩, ⟨hrow5, ?_, ?_, Or.inr ⟨b, _, rfl, hbb, by simpa using hmap4, hD.put htidy hmem⟩⟩, ?_, ?_⟩
  · rw [List.nodup_append]
    refine ⟨hT.2.1, by simp, fun x hx y hy e => ?_⟩
    simp at hy
    subst hy
    exact hmem (e ▸ hx)
  · intro s hs'
    rcases List.mem_append.1 hs' with h | h
    · exact hT.2.2.1 s h
    · simp at h
      subst h
      exact hz
  · show (World.setCell _ _ _).heap[g]? = _
    simp [World.setCell, Array.getElem?_modify, show (setBlock w1 b (.map es' clock')).heap[g]? = _ from hG3]
  · have h1 : Below base w00 w1 := hB.grown hto (by omega) (fun j hj => (hT.1.lt j hj).1)
    have h2 := h1.grown hgr' (by omega) (fun j hj => by cases hj; exact hbb)
    exact h2.setCell (by exact hbg) _

theorem made_map {w : World} {base g : Nat} {sv : Value} {ms : List ByteArray} (hT : Tbl w base (.map none) sv ms) (hG : NsAt w g (.map none) sv) (hbg : base ≤ g) (hms : ms = []) :
    Tbl ((w.setCell ⟨g, 0, none⟩ (.map (some w.heap.size))).alloc (.map #[] 0)) base (.map (some w.heap.size)) sv ms ∧ NsAt ((w.setCell ⟨g, 0, none⟩ (.map (some w.heap.size))).alloc (.map #[] 0)) g (.map (some w.heap.size)) sv ∧
      Below base w ((w.setCell ⟨g, 0, none⟩ (.map (some w.heap.size))).alloc (.map #[] 0)) := by
  have hgl : g < w.heap.size := hG.cells.2.2.2
  obtain ⟨_, hap2⟩ := hG.apart hT
  have e1 : (w.setCell ⟨g, 0, none⟩ (.map (some w.heap.size))).heap.size = w.heap.size := by simp [World.setCell]
  have hm := World.ownsMap_made (H := Unit) (w.setCell ⟨g, 0, none⟩ (.map (some w.heap.size))) Try.prog 9 (plainElem Try.prog 21)
  rw [e1] at hm
  subst hms
  refine ⟨⟨(hT.1.kept (grown_set _ g 0 _) (Or.inr hap2)).alloc _, hT.2.1, hT.2.2.1, Or.inr ⟨w.heap.size, .map [], rfl, by omega, hm, TD.nil⟩⟩, ?_, ((Below.refl base w).setCell (by exact hbg) _).alloc (by rw [e1]; omega) _⟩
  show (World.alloc _ _).heap[g]? = _
  rw [Below.heap_alloc _ _ _ (by rw [e1]; exact hgl)]
  simp [World.setCell, Array.getElem?_modify, show w.heap[g]? = _ from hG]

set_option maxRecDepth 100000 in
set_option maxHeartbeats 3200000 in
theorem number_any (g base : Nat) (mv sv : Value) (ms : List ByteArray) (name : ByteArray) (like : Int) (w : World) (hG : NsAt w g mv sv) (hbg : base ≤ g) (hT : Tbl w base mv sv ms) (hz : name.size ≤ 1048576) (hlen : ms.length ≤ 10000)
    (hlike : like = -1 ∨ ∃ j : Nat, like = j ∧ j < ms.length) :
    Calls Try.prog 11 #[.pointer (some ⟨g, 0, none⟩), .string name, .int .i32 like] w fun e w' => NumRes w base g ms name e w' := by
  obtain ⟨sa, scap, rfl⟩ := hT.shape
  obtain ⟨c0, c1, fz, hgl⟩ := hG.cells
  obtain ⟨hap1, hap2⟩ := hG.apart hT
  have hzm : name.size ≤ maxLen := by unfold maxLen; omega
  obtain ⟨i0, hi, hz0, hz1, hz2⟩ := info_parts Try.info9
  -- the hint strikes
  by_cases hA : ∃ j : Nat, like = j ∧ ms[j]? = some name
  · obtain ⟨j, rfl, hj⟩ := hA
    have hjl : j < ms.length := (List.getElem?_eq_some_iff.1 hj).1
    obtain ⟨r, cap, e, hbr, hrl⟩ := hT.1.form (by omega)
    cases e
    have cj : w.cell? ⟨r, j, none⟩ = some (.string name) := by
      rw [hT.1.cellAt j (by omega)]
      simp [hj]
    have hne : ((j : Int) != -1) = true := by simp
    have heq : (name.toList == name.toList) = true := by simp
    have HF := hide (show NumRes w base g ms name (.returned (.int .i32 j)) w from ⟨j, _, _, ms, rfl, hj, Or.inl rfl, hT, hG, Below.refl _ _⟩)
    clear hT hG hap1 hap2 hlike
    go_enter Try.func11, Try.ntmps11
    go_wp2
    go_ret
    exact HF.out
  -- it does not: the two ways to the look-up
  have hB : (like = -1) ∨ ∃ (j r cap : Nat) (s : ByteArray), like = j ∧ j < ms.length ∧ sa = some ⟨r, 0, none⟩ ∧ scap = cap ∧ w.cell? ⟨r, j, none⟩ = some (.string s) ∧ (s.toList == name.toList) = false ∧ r < w.heap.size := by
    rcases hlike with h | ⟨j, rfl, hj⟩
    · exact Or.inl h
    · obtain ⟨r, cap, e, hbr, hrl⟩ := hT.1.form (by omega)
      cases e
      refine Or.inr ⟨j, r, _, ms[j], rfl, hj, rfl, rfl, ?_, ?_, hrl⟩
      · rw [hT.1.cellAt j (by omega)]
        simp [hj]
      · cases hh : (ms[j].toList == name.toList)
        · rfl
        · have e1 : ms[j] = name := by
            have : ms[j].toList = name.toList := by simpa using hh
            rw [ByteArray.toList_eq, ByteArray.toList_eq] at this
            apply ByteArray.ext
            exact Array.toList_inj.1 this
          exact absurd ⟨j, rfl, by rw [List.getElem?_eq_getElem hj, e1]⟩ hA
  clear hA hlike
  by_cases hmem : name ∈ ms
  · obtain ⟨i, hi⟩ := List.getElem?_of_mem hmem
    have hlk := hT.look_in hi
    have HF := hide (show NumRes w base g ms name (.returned (.int .i32 i)) w from ⟨i, _, _, ms, rfl, hi, Or.inl rfl, hT, hG, Below.refl _ _⟩)
    clear hT hG hap1 hap2 hmem hi
    rcases hB with rfl | ⟨j, r, cap, s, rfl, hj, rfl, rfl, cj, hse, hrl⟩
    · go_enter Try.func11, Try.ntmps11
      go_wp2
      go_ret
      exact HF.out
    · have hne : ((j : Int) != -1) = true := by simp
      go_enter Try.func11, Try.ntmps11
      go_wp2
      go_ret
      exact HF.out
  · have hlk := hT.look_out hmem hzm
    rcases hT.2.2.2 with ⟨rfl, hms⟩ | ⟨b, D, rfl, hbb, hown, hD⟩
    · -- the map is made now
      have hmm := @run_makeMap Try.prog
      have hnil := fun w => run_eql_map_nil (P := Try.prog) w 25 9 21 none Try.underlying25
      have hlk1 : like = -1 := by
        rcases hB with h | ⟨j, _, _, _, _, hj, _⟩
        · exact h
        · rw [hms] at hj
          simp at hj
      subst hlk1
      obtain ⟨hT0, hG0, hB0⟩ := made_map hT hG hbg hms
      have HH := hide (And.intro hT0 (And.intro hG0 hB0))
      clear hT hG hap1 hap2 hB hT0 hG0 hB0 hms
      go_enter Try.func11, Try.ntmps11
      go_wp2_with fail
      obtain ⟨hT0, hG0, hB0⟩ := HH.out
      generalize (w.setCell ⟨g, 0, none⟩ (.map (some w.heap.size))).alloc (.map #[] 0) = w0 at hT0 hG0 hB0 ⊢
      obtain ⟨d0, d1, dz, hdl⟩ := hG0.cells
      have h1 := hide hT0
      have h2 := hide hG0
      have hbw := Nat.le_trans hbg (Nat.le_of_lt hdl)
      clear HH hT0 hG0 hlk hnil hmm c0 c1 fz hgl
      generalize w.heap.size = b at *
      go_region_law
        ((refine step_append_lies _ (by rfl) _ _ _ (by rfl) base 9 i0 _ 1 16 Try.underlying22 hi hz0 hz1 hz2 rfl (by omega) (.slice _ ms.length scap) ms.length (ms.map Value.string) (by simp [Act.eval]) ((h1.out.1.alloc _).drew)
            ⟨w0.heap.size, 0, none⟩ 1 1 [.string name] (by simp [Act.eval]) (by rfl) (World.news_of_block (cs := #[.string name]) (t := 9) (fr := (0, 0)) (heap_alloc_new w0 _)) (by simp [Value.oneCell'])
            (by omega) (by unfold maxLen; omega) (by omega) (by simp; omega) (w0.heap.size + 1) (by simp) ?_; intro gg cap' w1 hown1 hgrow hat hlt1
          obtain ⟨v0, st, w2, w3, hme, hes, c10, c31, f31, HF⟩ := commit h1.out h2.out hbg hmem hzm hlen hB0 hown1 hgrow hat))
      all_goals
        go_wp2
        go_ret
        exact HF.out
    · have hnil := fun w => run_eql_map_nil (P := Try.prog) w 25 9 21 (some b) Try.underlying25
      have h1 := hide hT
      have h2 := hide hG
      clear hown hD
      rcases hB with rfl | ⟨j, r, cap, s, rfl, hj, rfl, rfl, cj, hse, hrl⟩
      all_goals
        try (have hne : ((j : Int) != -1) = true := by simp)
        clear hT hG hap1 hap2
        go_enter Try.func11, Try.ntmps11
        go_wp2_with fail
        clear hlk hnil
        go_region_law
          ((refine step_append_lies _ (by rfl) _ _ _ (by rfl) base 9 i0 _ 1 16 Try.underlying22 hi hz0 hz1 hz2 rfl (by omega) (.slice _ ms.length scap) ms.length (ms.map Value.string) (by simp [Act.eval]) ((h1.out.1.alloc _).drew)
              ⟨w.heap.size, 0, none⟩ 1 1 [.string name] (by simp [Act.eval]) (by rfl) (World.news_of_block (cs := #[.string name]) (t := 9) (fr := (0, 0)) (heap_alloc_new w _)) (by simp [Value.oneCell'])
              (by omega) (by unfold maxLen; omega) (by omega) (by simp; omega) (w.heap.size + 1) (by simp) ?_; intro gg cap' w1 hown1 hgrow hat hlt1
            obtain ⟨v0, st, w2, w3, hme, hes, c10, c31, f31, HF⟩ := commit h1.out h2.out hbg hmem hzm hlen (Below.refl base w) hown1 hgrow hat))
        all_goals
          go_wp2
          go_ret
          exact HF.out

end Go.Proofs.Qxb6621657a
