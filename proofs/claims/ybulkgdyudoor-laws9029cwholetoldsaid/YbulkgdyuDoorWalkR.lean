/-
  9029C: slices.Grow (18) on a row of the call's own; slices.Clone (10), slices.Equal (14), errors.New (11) at bytes.
-/
import Derived.Test.YbulkgdyuDoorWalkN
import Derived.Lib.SliceRun
namespace Go.Proofs.YbulkgdyuDoor.C
open Go.RowKit Go.Lib Go.Proofs.YbulkgdyuDoor
set_option linter.unusedSimpArgs false
set_option linter.unusedVariables false

theorem add_plain (b o j : Nat) : (⟨b, o, none⟩ : Addr).add j = ⟨b, o + j, none⟩ := by unfold Addr.add; split <;> simp_all

theorem own_rowB {B : Nat} {w : World} {v : Value} {l : List UInt8} (h : w.ownsRow B 5 1 v l.length (byteCells l)) : RowB w.heap.size w v l := by
  rcases h.2 with ⟨rfl, h0⟩ | ⟨g, cap, cur, rfl, r1, r2, r3, r4, r5, r6⟩
  · exact Or.inl ⟨rfl, List.eq_nil_of_length_eq_zero h0⟩
  · refine Or.inr ⟨_, _, rfl, fun _ => (Array.getElem?_eq_some_iff.1 r2).1, fun j u hu => ?_⟩
    rw [add_plain]
    have hj : j < l.length := by
      have := (List.getElem?_eq_some_iff.1 hu).1
      rwa [byteCells_length] at this
    rw [← r6, List.getElem?_take_of_lt (by omega)] at hu
    simp only [World.cell?, r2, Option.isSome_none, Bool.false_eq_true, if_false]
    simpa using hu

set_option maxRecDepth 100000 in
set_option maxHeartbeats 1000000 in
theorem clone_any {B : Nat} {v : Value} {l : List UInt8} (w : World) (hl : l.length ≤ 1048576) (h : RowB B w v l) :
    Calls Ybad.prog 10 #[v] w fun e w' => ∃ v', e = .returned v' ∧ w'.ownsRow w.heap.size 5 1 v' l.length (byteCells l) ∧ Below w.heap.size w w' := by
  rcases h with ⟨rfl, rfl⟩ | ⟨a, c, rfl, _, hc⟩
  · have q22 : ∀ (w : World) (a : Option Addr) (n c n' c' : Nat), (binOp .eql 22 (.slice a n c) (.slice none n' c')).run Ybad.prog w = .ok (.bool a.isNone) w := fun w a n c n' c' => Lib.run_eql_slice_nil w _ _ a n c n' c' Ybad.underlying22
    go_enter Ybad.func10, Ybad.ntmps10
    go_wp2_with fail
    go_ret
    exact ⟨_, rfl, ⟨rfl, Or.inl ⟨rfl, rfl⟩⟩, Below.refl _ _⟩
  · have HC := keep hc
    clear hc
    have HOwn0 := keep (show (w.alloc (.cells #[] 5)).ownsRow w.heap.size 5 1 (.slice (some ⟨w.heap.size, 0, none⟩) 0 0) ([] : List UInt8).length (byteCells []) from
      ⟨rfl, Or.inr ⟨_, _, _, rfl, Nat.le_refl _, heap_alloc_new w _, Nat.zero_le _, by unfold maxLen; omega, rfl, rfl⟩⟩)
    have q22 : ∀ (w : World) (a : Option Addr) (n c n' c' : Nat), (binOp .eql 22 (.slice a n c) (.slice none n' c')).run Ybad.prog w = .ok (.bool a.isNone) w := fun w a n c n' c' => Lib.run_eql_slice_nil w _ _ a n c n' c' Ybad.underlying22
    have HBuf := keep (Buf.start HOwn0.out (show w.heap.size ≤ (w.alloc (.cells #[] 5)).heap.size by simp))
    have HRow := keep (show Row (w.alloc (.cells #[] 5)) (.slice (some a) l.length c) l from Or.inr ⟨a, c, rfl, fun j u hu => (World.cell?_of_block (Below.heap_alloc w _ _ (World.block_lt_of_cell? _ _ (HC.out j u hu)))).trans (HC.out j u hu)⟩)
    go_enter Ybad.func10, Ybad.ntmps10
    go_wp2_with (at_builtin; refine buf_slice rfl (.tmp 5) (.tmp 6) rfl HBuf.out rfl rfl l HRow.out (by simp only [List.length_nil]; omega) ?_; intro v1 w1 hb1; have HB1 := keep hb1; clear hb1)
    go_ret
    refine ⟨v1, rfl, by simpa using HB1.out.own, ((Below.refl w.heap.size w).alloc (Nat.le_refl _) _).trans (HB1.out.fr.below (by simp) (fun k hk e => ?_))⟩
    have e' : w.heap.size = k := Option.some.inj e
    omega
end Go.Proofs.YbulkgdyuDoor.C
