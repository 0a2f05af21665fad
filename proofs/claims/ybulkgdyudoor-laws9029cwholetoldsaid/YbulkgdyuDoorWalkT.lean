/-
  9029C, seventh text: Read (59) where the buffer is empty and p is short: the reader fills the buffer first.
-/
import Derived.Test.YbulkgdyuDoorWalkS
namespace Go.Proofs.YbulkgdyuDoor.C
open Go.RowKit Go.Lib Go.Proofs.YbulkgdyuDoor
set_option linter.unusedSimpArgs false
set_option linter.unusedVariables false
attribute [local go_sem] meth40 meth43 ne_ev ne_nils eq_ev eq_nils

theorem RdPost.keeps {rb g off m ch pos b : Nat} {t : TypeId} {cur : List Value} {dv er : Value} {ea : Addr} {dl : List UInt8} {n : Nat} {w w' : World} (h : RdPost w rb g off m ch pos t cur dv ea dl n er w') (hb : b < w.heap.size) (h1 : b ≠ rb) (h2 : b ≠ g) : w'.heap[b]? = w.heap[b]? := by
  rcases h with ⟨_, _, _, _, _, _, _, h⟩ | ⟨_, _, _, q, rfl⟩
  · exact h.block b hb (by omega)
  · rfl
theorem RdPost.one {rb g off m ch pos : Nat} {t : TypeId} {cur : List Value} {dv er : Value} {ea : Addr} {dl : List UInt8} {n : Nat} {w w' : World} (h : RdPost w rb g off m ch pos t cur dv ea dl n er w') : er.oneCell' = true := by
  rcases h with ⟨_, _, _, _, rfl, _⟩ | ⟨_, _, rfl, _⟩ <;> rfl
set_option maxRecDepth 100000 in
set_option maxHeartbeats 4000000 in
theorem read_short_end {B rb bb fb g off m pc ch c r : Nat} {cur : List Value} {dv : Value} {ea : Addr} {dl : List UInt8} (w : World) (hs : m < 16384) (hc : c = dl.length) (h : St B w rb bb fb dv ea dl ch c 0 r .nilIface) (ht : Tgt B w rb bb fb g off m cur) :
    Calls Ybad.prog 59 #[.pointer (some ⟨bb, 0, none⟩), .slice (some ⟨g, off, none⟩) m pc] w fun e w' => ∃ (n : Nat) (er : Value), e = .returned (.tuple #[.int .i64 n, er]) ∧ ReadPost B w rb bb fb g off m cur dv ea dl ch c n er w' := by
  obtain ⟨lb, lr, hbr⟩ := h.br
  obtain ⟨bc, hcur, hcl, _⟩ := h.buf
  have HSt := keep h
  have HT := keep ht
  have HC := keep hc
  have hm := ht.pos
  have hm2 := ht.big
  have HCl := keep hcl
  obtain ⟨c0, c1, c2, c3, c4, c5, c6, fz⟩ := br_cell hbr
  have f2 := fz 2
  have f3 := fz 3
  have e1 : ¬ ((m : Int) = 0) := by omega
  have e2 : ¬ ((16384 : Int) ≤ (m : Int)) := by omega
  have HCur0 := keep hcur
  have HBr0 := keep hbr
  clear h hbr hcur hcl fz ht hc
  go_enter Ybad.func59, Ybad.ntmps59
  go_wp2_with fail
  go_quiet (fail)
  go_upto_region 19 with fail
  have HBr3 := keep (show (((w.drewN nq).setCell ⟨bb, 2, none⟩ (.int .i64 0)).setCell ⟨bb, 3, none⟩ (.int .i64 0)).heap[bb]? = some (brCells fb rb 0 0 .nilIface lb lr) from br_set3 (br_set2 (w := w.drewN nq) HBr0.out 0 rfl) 0 rfl)
  have HF3 := keep (show Fr (fun i => i = bb) w (((w.drewN nq).setCell ⟨bb, 2, none⟩ (.int .i64 0)).setCell ⟨bb, 3, none⟩ (.int .i64 0)) from (((Fr.refl (fun i => i = bb) w).drewN nq).setCell (p := ⟨bb, 2, none⟩) (fun _ => rfl) _).setCell (p := ⟨bb, 3, none⟩) (fun _ => rfl) _)
  generalize ((w.drewN nq).setCell ⟨bb, 2, none⟩ (.int .i64 0)).setCell ⟨bb, 3, none⟩ (.int .i64 0) = w3 at HBr3 HF3 ⊢
  have HS3 := keep (show St B w3 rb bb fb dv ea dl ch c 0 0 .nilIface from by
    have h := HSt.out
    have hrs := (Array.getElem?_eq_some_iff.1 (show w.heap[rb]? = _ from h.rd)).1
    have hfs := (Array.getElem?_eq_some_iff.1 HCur0.out).1
    exact ⟨(HF3.out.block rb hrs h.ne1).trans h.rd, ⟨lb, lr, HBr3.out⟩, ⟨bc, (HF3.out.block fb hfs (fun e => h.ne3 e.symm)).trans HCur0.out, HCl.out, fun j hj => absurd hj (Nat.not_lt_zero j)⟩, by omega, h.le, h.ne1, h.ne2, h.ne3, h.lo, h.data.kept (fun i hi => HF3.out.block i (by have := h.lo; omega) (by have := h.lo; omega)), h.small, h.chs⟩)
  have HT3 := keep (show Tgt B w3 rb bb fb g off m cur from ⟨(HF3.out.block g (Array.getElem?_eq_some_iff.1 HT.out.row).1 HT.out.n2).trans HT.out.row, HT.out.fit, HT.out.n1, HT.out.n2, HT.out.n3, HT.out.lo, HT.out.pos, HT.out.big⟩)
  have HCur3 := keep ((HF3.out.block fb (Array.getElem?_eq_some_iff.1 HCur0.out).1 (fun e => HSt.out.ne3 e.symm)).trans HCur0.out)
  have HRd := keep (fun q => rd_end (m := 16384) (pc := 16384) (pa := some ⟨fb, 0, none⟩) (w3.drewN q) (by decide) (by decide) HSt.out.small (HS3.out.data.drewN q) (show RdAt (w3.drewN q) rb dv dl.length ch (Ev ea) from by have h := HS3.out.rd; rw [Nat.add_zero, HC.out] at h; exact h))
  have HBlt := keep (show bb < w3.heap.size from (Array.getElem?_eq_some_iff.1 HBr3.out).1)
  obtain ⟨d0, d1, d2, d3, d4, d5, d6, fz⟩ := br_cell HBr3.out
  clear c0 c1 c2 c3 c4 c5 c6 f2 f3
  go_cut [4] (fun s4 wc => s4 = .int .i64 0 ∧ ∃ q, wc = (w3.setCell ⟨bb, 4, none⟩ (Ev ea)).drewN q)
  case first =>
    have f4 := fz 4
    go_region_with (go_at_call 58; refine (HRd.out _).mono ?_; rintro e w2 ⟨rfl, q, hw2⟩; rw [hw2]; clear hw2 w2)
    all_goals (go_wp2_with fail)
    all_goals go_meet
    all_goals exact ⟨rfl, _, rfl⟩
  case rest =>
    obtain ⟨rfl, q, rfl⟩ := hcut
    have HBr4 := keep (show ((w3.setCell ⟨bb, 4, none⟩ (Ev ea)).drewN q).heap[bb]? = _ from br_set4 HBr3.out (Ev ea))
    have HEr := keep (readErr_any _ HBr4.out)
    clear d0 d1 d2 d3 d4 d5 d6 fz HRd
    go_wp2_with (go_at_call 21; refine HEr.out.mono ?_; rintro e w5 ⟨rfl, hw5⟩; rw [hw5]; clear hw5 w5)
    go_ret2
    have hFa : Fr (fun i => i = bb) w3 (((w3.setCell ⟨bb, 4, none⟩ (Ev ea)).drewN q).setCell ⟨bb, 4, none⟩ .nilIface) := (((Fr.refl (fun i => i = bb) w3).setCell (p := ⟨bb, 4, none⟩) (fun _ => rfl) _).drewN q).setCell (p := ⟨bb, 4, none⟩) (fun _ => rfl) _
    refine ⟨0, Ev ea, rfl, ?_, Or.inr ⟨HC.out, rfl, rfl, ⟨0, 0, HS3.out.move (n := 0) hFa (Nat.le_refl _) ⟨_, _, br_set4 HBr4.out _⟩⟩, (hFa.block g (Array.getElem?_eq_some_iff.1 HT3.out.row).1 HT3.out.n2).trans HT3.out.row⟩⟩
    exact (HF3.out.mono (T := S4 rb bb fb g) (fun i _ e => Or.inr (Or.inl e))).next hFa (fun i _ e => Or.inr (Or.inl e))
end Go.Proofs.YbulkgdyuDoor.C
