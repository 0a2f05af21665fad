/-
  9029C, seventh text: Read (59) where the buffer is empty and p is short: the reader fills the buffer first.
-/
import Derived.Test.YbulkgdyuDoorWalkT
namespace Go.Proofs.YbulkgdyuDoor.C
open Go.RowKit Go.Lib Go.Proofs.YbulkgdyuDoor
set_option linter.unusedSimpArgs false
set_option linter.unusedVariables false
attribute [local go_sem] meth40 meth43 ne_ev ne_nils eq_ev eq_nils

/-- behind a Read that put n bytes into the buffer. -/
theorem read_got {B rb bb fb ch c n r0 k0 q : Nat} {dv er0 : Value} {ea : Addr} {dl : List UInt8} {w3 w2 : World} {cur : List Value} {lb lr z : Int} (h : St B w3 rb bb fb dv ea dl ch c k0 r0 er0)
    (hbr : w3.heap[bb]? = some (brCells fb rb 0 0 .nilIface lb lr)) (hcl : cur.length = 16384) (hn1 : 1 ≤ n) (hn2 : n ≤ 7) (hn3 : c + n ≤ dl.length) (hr2 : RdAt w2 rb dv (c + n) ch (Ev ea)) (hg2 : w2.heap[fb]? = some (.cells (splice cur 0 (byteCells (seg dl c n))).toArray 5 (0, 0)))
    (hf2 : Fr (fun i => i = rb ∨ i = fb) w3 w2) (hz : z = (n : Nat)) :
    Fr (S3 rb bb fb) w3 (((w2.setCell ⟨bb, 4, none⟩ .nilIface).drewN q).setCell ⟨bb, 3, none⟩ (.int .i64 z)) ∧ St B (((w2.setCell ⟨bb, 4, none⟩ .nilIface).drewN q).setCell ⟨bb, 3, none⟩ (.int .i64 z)) rb bb fb dv ea dl ch c n 0 .nilIface := by
  have hb2 : w2.heap[bb]? = some (brCells fb rb 0 0 .nilIface lb lr) := (hf2.block bb (Array.getElem?_eq_some_iff.1 hbr).1 (by have := h.ne1; have := h.ne3; omega)).trans hbr
  have hF : Fr (S3 rb bb fb) w3 (((w2.setCell ⟨bb, 4, none⟩ .nilIface).drewN q).setCell ⟨bb, 3, none⟩ (.int .i64 z)) := (((hf2.mono (T := S3 rb bb fb) (fun i _ e => by unfold S3; omega)).setCell (p := ⟨bb, 4, none⟩) (fun _ => Or.inr (Or.inl rfl)) _).drewN q).setCell (p := ⟨bb, 3, none⟩) (fun _ => Or.inr (Or.inl rfl)) _
  obtain ⟨l1, l2, hb0⟩ := h.br
  have hbs := (Array.getElem?_eq_some_iff.1 hb0).1
  refine ⟨hF, ?_, ⟨lb, lr, ?_⟩, ⟨splice cur 0 (byteCells (seg dl c n)), ?_, ?_, fun j hj => ?_⟩, by omega, hn3, h.ne1, h.ne2, h.ne3, h.lo, h.data.kept (fun k hk => hF.block k (by have := h.lo; omega) (by have := h.lo; unfold S3; omega)), h.small, h.chs⟩
  · unfold RdAt
    rw [Below.heap_setCell _ ⟨bb, 3, none⟩ _ rb h.ne1]
    exact (Below.heap_setCell w2 ⟨bb, 4, none⟩ _ rb h.ne1).trans hr2
  · rw [Nat.zero_add]
    exact br_set3 (w := (w2.setCell ⟨bb, 4, none⟩ .nilIface).drewN q) (br_set4 hb2 _) n hz
  · rw [Below.heap_setCell _ ⟨bb, 3, none⟩ _ fb (fun e => h.ne3 e.symm)]
    exact (Below.heap_setCell w2 ⟨bb, 4, none⟩ _ fb (fun e => h.ne3 e.symm)).trans hg2
  · rw [length_splice _ _ _ (by rw [byteCells_length, seg_len dl c n hn3]; omega)]
    exact hcl
  · rw [splice_in _ _ _ _ (by rw [byteCells_length, seg_len dl c n hn3]; exact hj) (by omega)]
    exact seg_cell dl c n j hn3 hj
set_option maxRecDepth 100000 in
set_option maxHeartbeats 4000000 in
theorem read_short_some {B rb bb fb g off m pc ch c r : Nat} {cur : List Value} {dv : Value} {ea : Addr} {dl : List UInt8} (w : World) (hs : m < 16384) (hc : c < dl.length) (h : St B w rb bb fb dv ea dl ch c 0 r .nilIface) (ht : Tgt B w rb bb fb g off m cur) :
    Calls Ybad.prog 59 #[.pointer (some ⟨bb, 0, none⟩), .slice (some ⟨g, off, none⟩) m pc] w fun e w' => ∃ (n : Nat) (er : Value), e = .returned (.tuple #[.int .i64 n, er]) ∧ ReadPost B w rb bb fb g off m cur dv ea dl ch c n er w' := by
  obtain ⟨lb, lr, hbr⟩ := h.br
  obtain ⟨bc, hcur, hcl, _⟩ := h.buf
  have HSt := keep h
  have HT := keep ht
  have HC := keep hc
  have hm := ht.pos
  have hm2 := ht.big
  have HCl := keep hcl
  obtain ⟨c0, c1, c2, c3, c4, c5, c6, fz⟩ := br_cell hbr
  have f2 := fz 2
  have f3 := fz 3
  have e1 : ¬ ((m : Int) = 0) := by omega
  have e2 : ¬ ((16384 : Int) ≤ (m : Int)) := by omega
  have HCur0 := keep hcur
  have HBr0 := keep hbr
  clear h hbr hcur hcl fz ht hc
  go_enter Ybad.func59, Ybad.ntmps59
  go_wp2_with fail
  go_quiet (fail)
  go_upto_region 19 with fail
  have HBr3 := keep (show (((w.drewN nq).setCell ⟨bb, 2, none⟩ (.int .i64 0)).setCell ⟨bb, 3, none⟩ (.int .i64 0)).heap[bb]? = some (brCells fb rb 0 0 .nilIface lb lr) from br_set3 (br_set2 (w := w.drewN nq) HBr0.out 0 rfl) 0 rfl)
  have HF3 := keep (show Fr (fun i => i = bb) w (((w.drewN nq).setCell ⟨bb, 2, none⟩ (.int .i64 0)).setCell ⟨bb, 3, none⟩ (.int .i64 0)) from (((Fr.refl (fun i => i = bb) w).drewN nq).setCell (p := ⟨bb, 2, none⟩) (fun _ => rfl) _).setCell (p := ⟨bb, 3, none⟩) (fun _ => rfl) _)
  generalize ((w.drewN nq).setCell ⟨bb, 2, none⟩ (.int .i64 0)).setCell ⟨bb, 3, none⟩ (.int .i64 0) = w3 at HBr3 HF3 ⊢
  have HS3 := keep (show St B w3 rb bb fb dv ea dl ch c 0 0 .nilIface from by
    have h := HSt.out
    have hrs := (Array.getElem?_eq_some_iff.1 (show w.heap[rb]? = _ from h.rd)).1
    have hfs := (Array.getElem?_eq_some_iff.1 HCur0.out).1
    exact ⟨(HF3.out.block rb hrs h.ne1).trans h.rd, ⟨lb, lr, HBr3.out⟩, ⟨bc, (HF3.out.block fb hfs (fun e => h.ne3 e.symm)).trans HCur0.out, HCl.out, fun j hj => absurd hj (Nat.not_lt_zero j)⟩, by omega, h.le, h.ne1, h.ne2, h.ne3, h.lo, h.data.kept (fun i hi => HF3.out.block i (by have := h.lo; omega) (by have := h.lo; omega)), h.small, h.chs⟩)
  have HT3 := keep (show Tgt B w3 rb bb fb g off m cur from ⟨(HF3.out.block g (Array.getElem?_eq_some_iff.1 HT.out.row).1 HT.out.n2).trans HT.out.row, HT.out.fit, HT.out.n1, HT.out.n2, HT.out.n3, HT.out.lo, HT.out.pos, HT.out.big⟩)
  have HCur3 := keep ((HF3.out.block fb (Array.getElem?_eq_some_iff.1 HCur0.out).1 (fun e => HSt.out.ne3 e.symm)).trans HCur0.out)
  have HRd := keep (fun q => rd_some (pc := 16384) (m := 16384) (off := 0) (w3.drewN q) (by decide) (by decide) HSt.out.small HSt.out.chs HC.out (HS3.out.data.drewN q) HS3.out.rd HCur3.out (fun e => HSt.out.ne2 e.symm) (by have := HCl.out; omega) HSt.out.lo.1 HSt.out.lo.2.2)
  have HBlt := keep (show bb < w3.heap.size from (Array.getElem?_eq_some_iff.1 HBr3.out).1)
  obtain ⟨d0, d1, d2, d3, d4, d5, d6, fz⟩ := br_cell HBr3.out
  clear c0 c1 c2 c3 c4 c5 c6 f2 f3
  go_cut [4] (fun s4 wc => s4 = .int .i64 (cnt ch 16384 (dl.length - c) : Nat) ∧ ∃ (q q' : Nat) (w2 : World), RdAt w2 rb dv (c + cnt ch 16384 (dl.length - c)) ch (Ev ea) ∧ w2.heap[fb]? = some (.cells (splice bc 0 (byteCells (seg dl c (cnt ch 16384 (dl.length - c))))).toArray 5 (0, 0)) ∧ Fr (fun i => i = rb ∨ i = fb) w3 w2 ∧ wc = (w2.setCell ⟨bb, 4, none⟩ .nilIface).drewN q')
  case first =>
    go_region_with (go_at_call 58; refine (HRd.out _).mono ?_; rintro e w2 ⟨rfl, hp1, hp2, hp3⟩; have hq := (hp3.block bb HBlt.out (by have := HSt.out.ne1; have := HSt.out.ne3; omega)).trans HBr3.out; obtain ⟨_, _, _, _, q4, _, _, qz⟩ := br_cell hq; have qf := qz 4; have HP := keep (And.intro hp1 (And.intro hp2 hp3)); clear qz hq hp1 hp2 hp3)
    all_goals (go_wp2_with fail)
    all_goals go_meet
    all_goals exact ⟨rfl, 0, 0, w2, HP.out.1, HP.out.2.1, ⟨HP.out.2.2.os, HP.out.2.2.tape, HP.out.2.2.output, HP.out.2.2.size, HP.out.2.2.block⟩, rfl⟩
  case rest =>
    obtain ⟨rfl, q, q', w2, hp1, hp2, hp3, rfl⟩ := hcut
    have HCnt := keep (show 1 ≤ cnt ch 16384 (dl.length - c) ∧ cnt ch 16384 (dl.length - c) ≤ 7 ∧ c + cnt ch 16384 (dl.length - c) ≤ dl.length by have h1 := HC.out; have h2 := HSt.out.chs; unfold cnt; omega)
    generalize cnt ch 16384 (dl.length - c) = k at hp1 hp2 HCnt ⊢
    have hg := read_got (q := q') (z := ((k : Nat) : Int)) HS3.out HBr3.out HCl.out HCnt.out.1 HCnt.out.2.1 HCnt.out.2.2 hp1 hp2 hp3 rfl
    have HF5 := keep hg.1
    have HS5 := keep hg.2
    have hb2 := (hp3.block bb HBlt.out (by have := HSt.out.ne1; have := HSt.out.ne3; omega)).trans HBr3.out
    obtain ⟨q0, q1, q2, q3, q4, q5, q6, qz⟩ := br_cell (br_set4 hb2 .nilIface)
    have z3 := qz 3
    have hk7 : k ≤ 7 := HCnt.out.2.1
    have hk1 : ¬ ((k : Int) < 0) := by omega
    have hk2 : ¬ ((k : Int) = 0) := by have := HCnt.out.1; omega
    clear d0 d1 d2 d3 d4 d5 d6 fz HRd hp1 hp2 hp3 hg hb2 qz
    go_wp2_with fail
    generalize ((w2.setCell ⟨bb, 4, none⟩ .nilIface).drewN q').setCell ⟨bb, 3, none⟩ (.int .i64 ((k : Nat) : Int)) = w5 at HF5 HS5 ⊢
    obtain ⟨r5, h⟩ : ∃ r5, St B w5 rb bb fb dv ea dl ch c k r5 .nilIface := ⟨0, HS5.out⟩
    have ht : Tgt B w5 rb bb fb g off m cur := ⟨(HF5.out.block g (Array.getElem?_eq_some_iff.1 HT3.out.row).1 (by have h1 := HT3.out.n1; have h2 := HT3.out.n2; have h3 := HT3.out.n3; unfold S3; omega)).trans HT3.out.row, HT3.out.fit, HT3.out.n1, HT3.out.n2, HT3.out.n3, HT3.out.lo, HT3.out.pos, HT3.out.big⟩
    obtain ⟨n, hn⟩ : ∃ n, n = min k m := ⟨_, rfl⟩
    have hk : 0 < k := by have := HCnt.out.1; omega
    clear q0 q1 q2 q3 q4 q5 q6 z3 HS5 e1 e2
    obtain ⟨lb5, lr5, hbr⟩ := h.br
    obtain ⟨bc5, hcur, hcl, hcc⟩ := h.buf
    have HSt5 := keep h
    have HBr5 := keep hbr
    have HT5 := keep ht
    have hm := ht.pos
    have hm2 := ht.big
    have hfit := h.fit
    have hle := h.le
    have hnk : n ≤ k ∧ n ≤ m ∧ 1 ≤ n := by omega
    obtain ⟨c0, c1, c2, c3, c4, c5, c6, fz⟩ := br_cell hbr
    have HSrc := keep (show ∀ j v, (byteCells (seg dl c n))[j]? = some v → w5.cell? ((⟨fb, r5, none⟩ : Addr).add j) = some v by
      intro j v hv
      have hj : j < n := by
        have := (List.getElem?_eq_some_iff.1 hv).1
        rwa [byteCells_length, seg_len dl c n (by omega)] at this
      rw [show (⟨fb, r5, none⟩ : Addr).add j = ⟨fb, r5 + j, none⟩ by unfold Addr.add; split <;> simp_all, cell_all hcur, List.getElem?_toArray, hcc j (by omega), ← hv, seg_cell dl c n j (by omega) hj])
    have HCs := keep (show (byteCells (seg dl c n)).length = n by rw [byteCells_length, seg_len dl c n (by omega)])
    have HLast := keep (show bc5[r5 + n - 1]? = some (.int .u8 (dl.getD (c + (n - 1)) 0).toNat) by
      have := hcc (n - 1) (by omega)
      rwa [show r5 + (n - 1) = r5 + n - 1 by omega] at this)
    have HBc := keep hcur
    have e1 : ¬ ((m : Int) = 0) := by omega
    obtain ⟨wd, hwd⟩ : ∃ wd, wd = r5 + k := ⟨_, rfl⟩
    have HWd := keep hwd
    rw [← hwd] at c3
    have e2 : ¬ ((r5 : Int) = (wd : Int)) := by omega
    have e3 : ¬ (16384 = r5) := by omega
    have e4 : wd ≤ 16384 := by omega
    have e4' : (wd : Int) ≤ 16384 := by omega
    have e6 : r5 ≤ wd := by omega
    have HN := keep hnk
    have HNm := keep hn
    have hn7 : n ≤ 7 := by omega
    have hr7 : r5 ≤ 7 := by omega
    clear h hbr hcur hcl hcc fz ht hn hwd
    go_cut [4] (fun s4 wc => s4 = .int .i64 (n : Nat) ∧ wc.heap[g]? = some (.cells (splice cur off (byteCells (seg dl c n))).toArray 5 (0, 0)) ∧ Fr (fun i => i = g) w5 wc)
    case first =>
      go_region_law (refine step_copy_fr rfl (.tmp 109) (.tmp 122) rfl _ _ _ _ _ _ rfl rfl g off cur 5 (by exact HT5.out.row) (byteCells (seg dl c n)) (by rw [HCs.out]; have := HNm.out; have := HWd.out; show _ = min _ _; omega) (fun _ => ⟨rfl, _, rfl, by exact HSrc.out⟩) (by rw [HCs.out]; have := HT5.out.fit; have := HN.out; omega) (cells_one _) ?_; intro w2 hg2 hf2)
      all_goals (go_wp2_with fail)
      all_goals go_meet
      all_goals exact ⟨by rw [HCs.out], hg2.out, ⟨hf2.out.os, hf2.out.tape, hf2.out.output, hf2.out.size, hf2.out.block⟩⟩
    case rest =>
      obtain ⟨rfl, hg2, hf0⟩ := hcut
      have hbr2 := (hf0.block bb (Array.getElem?_eq_some_iff.1 HBr5.out).1 (fun e => HT5.out.n2 e.symm)).trans HBr5.out
      have hbc2 := (hf0.block fb (Array.getElem?_eq_some_iff.1 HBc.out).1 (fun e => HT5.out.n3 e.symm)).trans HBc.out
      obtain ⟨d0, d1, d2, d3, d4, d5, d6, fz⟩ := br_cell hbr2
      have cl : wc.cell? ⟨fb, r5 + n - 1, none⟩ = some (.int .u8 (dl.getD (c + (n - 1)) 0).toNat) := by rw [cell_all hbc2, List.getElem?_toArray]; exact HLast.out
      have f2 := fz 2
      have f5 := fz 5
      have f6 := fz 6
      have i1 : 0 ≤ (r5 : Int) + n - 1 := by omega
      have i2 : (r5 : Int) + n - 1 < 16384 := by omega
      have i3 : ((r5 : Int) + n - 1).toNat = r5 + n - 1 := by omega
      have hx : (dl.getD (c + (n - 1)) 0).toNat < 256 := UInt8.toNat_lt _
      have hne3 := HSt5.out.ne3
      have HF8 := keep hf0
      have HBr8 := keep hbr2
      have HG2 := keep hg2
      clear hf0 hbr2 hbc2 hg2 fz d3 c0 c1 c2 c3 c4 c5 c6
      go_wp2_with fail
      obtain ⟨x, hx1⟩ : ∃ x, r5 + n = x + 1 := ⟨r5 + n - 1, by omega⟩
      have hz : (r5 : Int) + n = ((x + 1 : Nat) : Int) := by omega
      have HBr9 := keep (br_set2 HBr8.out (x + 1) hz)
      have HF9 := keep (show Fr (fun i => i = bb) wc (wc.setCell ⟨bb, 2, none⟩ (.int .i64 ((r5 : Int) + n))) from (Fr.refl (fun i => i = bb) wc).setCell (p := ⟨bb, 2, none⟩) (fun _ => rfl) _)
      have cl3 : (wc.setCell ⟨bb, 2, none⟩ (.int .i64 ((r5 : Int) + n))).cell? ⟨fb, x, none⟩ = some (.int .u8 (dl.getD (c + (n - 1)) 0).toNat) := by
        rw [show x = r5 + n - 1 by omega]
        exact (World.cell?_of_block (Below.heap_setCell wc ⟨bb, 2, none⟩ _ fb (fun e => HSt5.out.ne3 e.symm))).trans cl
      generalize wc.setCell ⟨bb, 2, none⟩ (.int .i64 ((r5 : Int) + n)) = w3 at HBr9 HF9 cl3 ⊢
      obtain ⟨g0, g1, g2, g3, g4, g5, g6, fz⟩ := br_cell HBr9.out
      have f5 := fz 5
      have f6 := fz 6
      have jb : x ≤ 14 := by omega
      have j3 : (x : Int) < 16384 := by omega
      have g2' : w3.cell? ⟨bb, 2, none⟩ = some (.int .i64 ((x : Int) + 1)) := by rw [g2]; rfl
      have hwA : IntKind.i64.wrap ((x : Int) + 1 - 1) = (x : Int) := by rw [IntKind.wrap_i64]; omega
      have hwB : IntKind.i64.wrap (x : Int) = (x : Int) := by rw [IntKind.wrap_i64]; omega
      have hz0 : (0 : Int) ≤ (x : Int) := by omega
      have hz1 : ((x : Int)).toNat = x := by omega
      have HX := keep hx1
      clear fz hx1 hz d0 d1 d2 d4 d5 d6 cl i1 i2 i3 f2 g2
      generalize hby : (dl.getD (c + (n - 1)) 0).toNat = by1 at cl3 hx
      clear hby
      go_region_held3 (fun w' => w'.cell? ⟨bb, 0, none⟩ = some (.slice (some ⟨fb, 0, none⟩) 16384 16384) ∧ w'.cell? ⟨bb, 2, none⟩ = some (.int .i64 ((x : Int) + 1)) ∧ w'.cell? ⟨fb, x, none⟩ = some (.int .u8 (by1 : Nat))) (first | (exact ⟨(br_cell (br_set5 HBr9.out _)).1, (br_cell (br_set5 HBr9.out _)).2.2.1, (World.cell?_of_block (Below.heap_setCell w3 ⟨bb, 5, none⟩ _ fb (fun e => HSt5.out.ne3 e.symm))).trans cl3⟩) | go_keep) (fail)
      go_wp2_with fail
      go_ret2
      have hFa : Fr (fun i => i = bb) wc ((w3.setCell ⟨bb, 5, none⟩ (.int .i64 (by1 : Nat))).setCell ⟨bb, 6, none⟩ (.int .i64 (-1))).drew := ((HF9.out.setCell (p := ⟨bb, 5, none⟩) (fun _ => rfl) _).setCell (p := ⟨bb, 6, none⟩) (fun _ => rfl) _).drewN 1
      have R1 := (HF8.out.mono (T := S4 rb bb fb g) (fun i _ e => Or.inr (Or.inr (Or.inr e)))).next hFa (fun i _ e => Or.inr (Or.inl e))
      have R0 : Fr (S4 rb bb fb g) w w5 := (HF3.out.mono (T := S4 rb bb fb g) (fun i _ e => Or.inr (Or.inl e))).next (HF5.out.mono (T := S4 rb bb fb g) (fun i _ e => by unfold S4; unfold S3 at e; omega)) (fun _ _ e => e)
      refine ⟨n, .nilIface, rfl, R0.next R1 (fun _ _ e => e), Or.inl ⟨HN.out.2.2, HN.out.2.1, by have := HSt5.out.le; have := HN.out.1; omega, rfl, ⟨k - n, r5 + n, ?_⟩, ?_⟩⟩
      · refine (HSt5.out.far HF8.out HT5.out.n1 HT5.out.n2 HT5.out.n3 HT5.out.lo).move (n := n) hFa HN.out.1 ⟨by1, -1, ?_⟩
        rw [HX.out]
        exact br_set6 (br_set5 HBr9.out _) (-1)
      · exact (hFa.block g (Array.getElem?_eq_some_iff.1 HG2.out).1 HT5.out.n2).trans HG2.out
end Go.Proofs.YbulkgdyuDoor.C
