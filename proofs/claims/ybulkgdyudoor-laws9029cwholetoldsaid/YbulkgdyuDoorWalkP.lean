/-
  9029C, fourth text: fill (22) where the buffer was read on from.
-/
import Derived.Test.YbulkgdyuDoorWalkO
namespace Go.Proofs.YbulkgdyuDoor.C
open Go.RowKit Go.Lib Go.Proofs.YbulkgdyuDoor
set_option linter.unusedSimpArgs false
set_option linter.unusedVariables false
attribute [local go_sem] meth40 meth43 ne_ev ne_nils eq_ev eq_nils

set_option maxRecDepth 100000 in
set_option maxHeartbeats 4000000 in
theorem fill_pos {B rb bb fb ch c r : Nat} {dv : Value} {ea : Addr} {dl : List UInt8} (w : World) (hr0 : 0 < r) (h : St B w rb bb fb dv ea dl ch c 0 r .nilIface) :
    Calls Ybad.prog 22 #[.pointer (some ⟨bb, 0, none⟩)] w fun e w' => FillPost B w rb bb fb dv ea dl ch c e w' := by
  obtain ⟨lb, lr, hbr⟩ := h.br
  obtain ⟨cur, hcur, hcl, _⟩ := h.buf
  have HSt := keep h
  have HRd0 := keep (show RdAt w rb dv c ch (Ev ea) from h.rd)
  have HCur0 := keep hcur
  have HBr0 := keep hbr
  have HBlt := keep (show bb < w.heap.size from (Array.getElem?_eq_some_iff.1 hbr).1)
  have HCl := keep hcl
  obtain ⟨c0, c1, c2, c3, c4, c5, c6, fz⟩ := br_cell hbr
  have f2 := fz 2
  have f3 := fz 3
  have hr7 : r ≤ 7 := by have := h.fit; omega
  have q1 : (0 : Int) < (r : Int) := by omega
  have hcp := fun (w : World) (a : Option Addr) (c : Nat) => run_copy_none (P := Ybad.prog) w 22 22 3 5 (some ⟨fb, 0, none⟩) a 16384 16384 0 c Ybad.underlying22 size5 rfl
  clear h hbr hcur hcl fz
  go_enter Ybad.func22, Ybad.ntmps22
  go_wp2_with fail
  go_region
  go_wp2_with fail
  go_region
  go_wp2_with fail
  have HBr3 := keep (show ((w.setCell ⟨bb, 3, none⟩ (.int .i64 0)).setCell ⟨bb, 2, none⟩ (.int .i64 0)).drew.drew.heap[bb]? = some (brCells fb rb 0 0 .nilIface lb lr) from br_set2 (br_set3 HBr0.out 0 rfl) 0 rfl)
  have HF3 := keep (show Fr (fun i => i = rb ∨ i = bb ∨ i = fb) w ((w.setCell ⟨bb, 3, none⟩ (.int .i64 0)).setCell ⟨bb, 2, none⟩ (.int .i64 0)).drew.drew from ((((Fr.refl _ w).setCell (p := ⟨bb, 3, none⟩) (fun _ => Or.inr (Or.inl rfl)) _).setCell (p := ⟨bb, 2, none⟩) (fun _ => Or.inr (Or.inl rfl)) _).drewN 1).drewN 1)
  have HRd3 := keep (show RdAt ((w.setCell ⟨bb, 3, none⟩ (.int .i64 0)).setCell ⟨bb, 2, none⟩ (.int .i64 0)).drew.drew rb dv c ch (Ev ea) from ((Below.heap_setCell _ ⟨bb, 2, none⟩ _ rb HSt.out.ne1).trans (Below.heap_setCell _ ⟨bb, 3, none⟩ _ rb HSt.out.ne1)).trans HRd0.out)
  have HCur3 := keep (show ((w.setCell ⟨bb, 3, none⟩ (.int .i64 0)).setCell ⟨bb, 2, none⟩ (.int .i64 0)).drew.drew.heap[fb]? = some (.cells cur.toArray 5 (0, 0)) from ((Below.heap_setCell _ ⟨bb, 2, none⟩ _ fb (fun e => HSt.out.ne3 e.symm)).trans (Below.heap_setCell _ ⟨bb, 3, none⟩ _ fb (fun e => HSt.out.ne3 e.symm))).trans HCur0.out)
  generalize ((w.setCell ⟨bb, 3, none⟩ (.int .i64 0)).setCell ⟨bb, 2, none⟩ (.int .i64 0)).drew.drew = w3 at HBr3 HF3 HRd3 HCur3 ⊢
  clear c0 c1 c2 c3 c4 c5 c6 f2 f3 HRd0 HCur0 HBr0 hcp
  obtain ⟨e0, e1, e2, e3, e4, e5, e6, fz⟩ := br_cell HBr3.out
  have f3 := fz 3
  have f4 := fz 4
  clear fz
  have hd3 := HSt.out.data.kept (w' := w3) (fun k hk => HF3.out.block k (Nat.lt_of_lt_of_le hk (Nat.le_trans HSt.out.lo.2.1 (Nat.le_of_lt HBlt.out))) (by have := HSt.out.lo; rintro (e | e | e) <;> omega))
  have HRd := keep (fun q => rd_one (pc := 16384) (m := 16384) (off := 0) (w3.drewN q) (by decide) (by decide) HSt.out.small HSt.out.chs HSt.out.le (hd3.drewN q) HRd3.out HCur3.out (fun e => HSt.out.ne2 e.symm) (by have := HCl.out; omega) HSt.out.lo.1 HSt.out.lo.2.2)
  clear hd3
  go_quiet (fail)
  go_wp2_with fail
  go_loopg [2] 100 (fun gk s2 wr => gk = 100 ∧ s2 = .int .i64 100 ∧ ∃ m', wr = w3.drewN m')
  case atStart => exact ⟨rfl, rfl, _, rfl⟩
  case round =>
    obtain ⟨rfl, rfl, m', rfl⟩ := hrel
    go_wp2_with fail
    go_region_with (go_at_call 58; refine (HRd.out _).mono ?_; rintro e w2 ⟨n, er, rfl, HP⟩)
    all_goals (rcases HP.out with ⟨hn1, hn2, _, hn3, rfl, hr2, hg2, hf2⟩ | ⟨hpe, rfl, rfl, q, hw2⟩)
    all_goals (clear HP HRd)
    all_goals (first | (have HN := keep (And.intro hn1 (And.intro hn2 (And.intro hn3 (And.intro hr2 (And.intro hg2 hf2))))); have hbr2 := (hf2.block bb (Array.getElem?_eq_some_iff.1 HBr3.out).1 (by have := HSt.out.ne1; have := HSt.out.ne3; omega)).trans HBr3.out; obtain ⟨g0, g1, g2, g3, g4, g5, g6, fz⟩ := br_cell hbr2; have f3 := fz 3; have f4 := fz 4; have hn0 : ¬ ((n : Int) < 0) := (by omega); have hn9 : (0 : Int) < (n : Int) := (by omega); clear fz hbr2 hr2 hg2 hf2 hn3 hn1) | (rw [hw2]; clear hw2 w2))
    all_goals (go_wp2_with fail)
    all_goals go_end0
    all_goals (first | (refine ⟨rfl, ?_⟩; have hg := fill_got (z := ((n : Nat) : Int)) HSt.out HF3.out HBr3.out HCl.out HN.out.1 HN.out.2.1 HN.out.2.2.1 HN.out.2.2.2.1 HN.out.2.2.2.2.1 (show Fr (fun i => i = rb ∨ i = fb) w3 w2 from ⟨HN.out.2.2.2.2.2.os, HN.out.2.2.2.2.2.tape, HN.out.2.2.2.2.2.output, HN.out.2.2.2.2.2.size, HN.out.2.2.2.2.2.block⟩) rfl; exact ⟨hg.1, Or.inl ⟨n, HN.out.1, hg.2⟩⟩) | (refine ⟨rfl, ?_⟩; have hg := fun q => fill_no (q := q) HSt.out HF3.out HBr3.out HCl.out HRd3.out HCur3.out; exact ⟨(hg _).1, Or.inr ⟨hpe, (hg _).2⟩⟩))

theorem fill_any {B rb bb fb ch c r : Nat} {dv : Value} {ea : Addr} {dl : List UInt8} (w : World) (h : St B w rb bb fb dv ea dl ch c 0 r .nilIface) :
    Calls Ybad.prog 22 #[.pointer (some ⟨bb, 0, none⟩)] w fun e w' => FillPost B w rb bb fb dv ea dl ch c e w' := by
  rcases Nat.eq_zero_or_pos r with rfl | h0
  · exact fill_zero w h
  · exact fill_pos w h0 h
end Go.Proofs.YbulkgdyuDoor.C
