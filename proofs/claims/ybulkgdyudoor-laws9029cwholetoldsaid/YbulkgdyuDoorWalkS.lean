/-
  9029C, sixth text: Read (59) out of the buffer.
-/
import Derived.Test.YbulkgdyuDoorWalkQ
import Derived.Deep.DeepCutAuto
import Derived.BigRegion
namespace Go.Proofs.YbulkgdyuDoor.C
open Go.RowKit Go.Lib Go.Proofs.YbulkgdyuDoor
set_option linter.unusedSimpArgs false
set_option linter.unusedVariables false
attribute [local go_sem] meth40 meth43 ne_ev ne_nils eq_ev eq_nils

abbrev S4 (rb bb fb g : Nat) : Nat → Prop := fun i => i = rb ∨ i = bb ∨ i = fb ∨ i = g
/-- how Read ends. -/
def ReadPost (B : Nat) (w : World) (rb bb fb g off m : Nat) (cur : List Value) (dv : Value) (ea : Addr) (dl : List UInt8) (ch c n : Nat) (er : Value) (w' : World) : Prop :=
  Fr (S4 rb bb fb g) w w' ∧ ((1 ≤ n ∧ n ≤ m ∧ c + n ≤ dl.length ∧ er = .nilIface ∧ (∃ k' r', St B w' rb bb fb dv ea dl ch (c + n) k' r' .nilIface) ∧ w'.heap[g]? = some (.cells (splice cur off (byteCells (seg dl c n))).toArray 5 (0, 0))) ∨
    (c = dl.length ∧ n = 0 ∧ er = Ev ea ∧ (∃ k' r', St B w' rb bb fb dv ea dl ch c k' r' .nilIface) ∧ w'.heap[g]? = some (.cells cur.toArray 5 (0, 0))))
/-- where p lies. -/
structure Tgt (B : Nat) (w : World) (rb bb fb g off m : Nat) (cur : List Value) : Prop where
  row : w.heap[g]? = some (.cells cur.toArray 5 (0, 0))
  fit : off + m ≤ cur.length
  n1 : g ≠ rb
  n2 : g ≠ bb
  n3 : g ≠ fb
  lo : B ≤ g
  pos : 0 < m
  big : m ≤ 100000000

theorem St.far {B rb bb fb ch c k r g : Nat} {dv er : Value} {ea : Addr} {dl : List UInt8} {w w' : World} (h : St B w rb bb fb dv ea dl ch c k r er) (hf : Fr (fun i => i = g) w w') (n1 : g ≠ rb) (n2 : g ≠ bb) (n3 : g ≠ fb) (lo : B ≤ g) : St B w' rb bb fb dv ea dl ch c k r er := by
  obtain ⟨l1, l2, hb0⟩ := h.br
  have hbs := (Array.getElem?_eq_some_iff.1 hb0).1
  obtain ⟨cur, hcur, hcl, hc⟩ := h.buf
  have hrs := (Array.getElem?_eq_some_iff.1 (show w.heap[rb]? = _ from h.rd)).1
  have hfs := (Array.getElem?_eq_some_iff.1 hcur).1
  exact ⟨(hf.block rb hrs (fun e => n1 e.symm)).trans h.rd, ⟨l1, l2, (hf.block bb hbs (fun e => n2 e.symm)).trans hb0⟩, ⟨cur, (hf.block fb hfs (fun e => n3 e.symm)).trans hcur, hcl, hc⟩, h.fit, h.le, h.ne1, h.ne2, h.ne3, h.lo, h.data.kept (fun i hi => hf.block i (by have := h.lo; omega) (by omega)), h.small, h.chs⟩

set_option maxRecDepth 100000 in
set_option maxHeartbeats 4000000 in
theorem read_buf {B rb bb fb g off m pc ch c k r n : Nat} {cur : List Value} {dv : Value} {ea : Addr} {dl : List UInt8} (w : World) (hk : 0 < k) (h : St B w rb bb fb dv ea dl ch c k r .nilIface) (ht : Tgt B w rb bb fb g off m cur) (hn : n = min k m) :
    Calls Ybad.prog 59 #[.pointer (some ⟨bb, 0, none⟩), .slice (some ⟨g, off, none⟩) m pc] w fun e w' => e = .returned (.tuple #[.int .i64 (n : Nat), .nilIface]) ∧ Fr (S4 rb bb fb g) w w' ∧ St B w' rb bb fb dv ea dl ch (c + n) (k - n) (r + n) .nilIface ∧ w'.heap[g]? = some (.cells (splice cur off (byteCells (seg dl c n))).toArray 5 (0, 0)) := by
  obtain ⟨lb, lr, hbr⟩ := h.br
  obtain ⟨bc, hcur, hcl, hcc⟩ := h.buf
  have HSt := keep h
  have HBr := keep hbr
  have HT := keep ht
  have hm := ht.pos
  have hm2 := ht.big
  have hfit := h.fit
  have hle := h.le
  have hnk : n ≤ k ∧ n ≤ m ∧ 1 ≤ n := by omega
  obtain ⟨c0, c1, c2, c3, c4, c5, c6, fz⟩ := br_cell hbr
  have HSrc := keep (show ∀ j v, (byteCells (seg dl c n))[j]? = some v → w.cell? ((⟨fb, r, none⟩ : Addr).add j) = some v by
    intro j v hv
    have hj : j < n := by
      have := (List.getElem?_eq_some_iff.1 hv).1
      rwa [byteCells_length, seg_len dl c n (by omega)] at this
    rw [show (⟨fb, r, none⟩ : Addr).add j = ⟨fb, r + j, none⟩ by unfold Addr.add; split <;> simp_all, cell_all hcur, List.getElem?_toArray, hcc j (by omega), ← hv, seg_cell dl c n j (by omega) hj])
  have HCs := keep (show (byteCells (seg dl c n)).length = n by rw [byteCells_length, seg_len dl c n (by omega)])
  have HLast := keep (show bc[r + n - 1]? = some (.int .u8 (dl.getD (c + (n - 1)) 0).toNat) by
    have := hcc (n - 1) (by omega)
    rwa [show r + (n - 1) = r + n - 1 by omega] at this)
  have HBc := keep hcur
  have e1 : ¬ ((m : Int) = 0) := by omega
  obtain ⟨wd, hwd⟩ : ∃ wd, wd = r + k := ⟨_, rfl⟩
  have HWd := keep hwd
  rw [← hwd] at c3
  have e2 : ¬ ((r : Int) = (wd : Int)) := by omega
  have e3 : ¬ (16384 = r) := by omega
  have e4 : wd ≤ 16384 := by omega
  have e4' : (wd : Int) ≤ 16384 := by omega
  have e6 : r ≤ wd := by omega
  have HN := keep hnk
  have HNm := keep hn
  have hn7 : n ≤ 7 := by omega
  have hr7 : r ≤ 7 := by omega
  clear h hbr hcur hcl hcc fz ht hn hwd
  go_enter Ybad.func59, Ybad.ntmps59
  go_wp2_with fail
  go_quiet (fail)
  go_upto_region 25 with fail
  go_cut [4] (fun s4 wc => s4 = .int .i64 (n : Nat) ∧ wc.heap[g]? = some (.cells (splice cur off (byteCells (seg dl c n))).toArray 5 (0, 0)) ∧ Fr (fun i => i = g) w wc)
  case first =>
    go_region_law (refine step_copy_fr rfl (.tmp 109) (.tmp 122) rfl _ _ _ _ _ _ rfl rfl g off cur 5 (by exact HT.out.row) (byteCells (seg dl c n)) (by rw [HCs.out]; have := HNm.out; have := HWd.out; show _ = min _ _; omega) (fun _ => ⟨rfl, _, rfl, by exact HSrc.out⟩) (by rw [HCs.out]; have := HT.out.fit; have := HN.out; omega) (cells_one _) ?_; intro w2 hg2 hf2)
    all_goals (go_wp2_with fail)
    all_goals go_meet
    all_goals exact ⟨by rw [HCs.out], hg2.out, ⟨hf2.out.os, hf2.out.tape, hf2.out.output, hf2.out.size, hf2.out.block⟩⟩
  case rest =>
    obtain ⟨rfl, hg2, hf0⟩ := hcut
    have hbr2 := (hf0.block bb (Array.getElem?_eq_some_iff.1 HBr.out).1 (fun e => HT.out.n2 e.symm)).trans HBr.out
    have hbc2 := (hf0.block fb (Array.getElem?_eq_some_iff.1 HBc.out).1 (fun e => HT.out.n3 e.symm)).trans HBc.out
    obtain ⟨d0, d1, d2, d3, d4, d5, d6, fz⟩ := br_cell hbr2
    have cl : wc.cell? ⟨fb, r + n - 1, none⟩ = some (.int .u8 (dl.getD (c + (n - 1)) 0).toNat) := by rw [cell_all hbc2, List.getElem?_toArray]; exact HLast.out
    have f2 := fz 2
    have f5 := fz 5
    have f6 := fz 6
    have i1 : 0 ≤ (r : Int) + n - 1 := by omega
    have i2 : (r : Int) + n - 1 < 16384 := by omega
    have i3 : ((r : Int) + n - 1).toNat = r + n - 1 := by omega
    have hx : (dl.getD (c + (n - 1)) 0).toNat < 256 := UInt8.toNat_lt _
    have hne3 := HSt.out.ne3
    have HF0 := keep hf0
    have HBr2 := keep hbr2
    have HG2 := keep hg2
    clear hf0 hbr2 hbc2 hg2 fz d3 c0 c1 c2 c3 c4 c5 c6
    go_wp2_with fail
    obtain ⟨x, hx1⟩ : ∃ x, r + n = x + 1 := ⟨r + n - 1, by omega⟩
    have hz : (r : Int) + n = ((x + 1 : Nat) : Int) := by omega
    have HBr3 := keep (br_set2 HBr2.out (x + 1) hz)
    have HF3 := keep (show Fr (fun i => i = bb) wc (wc.setCell ⟨bb, 2, none⟩ (.int .i64 ((r : Int) + n))) from (Fr.refl (fun i => i = bb) wc).setCell (p := ⟨bb, 2, none⟩) (fun _ => rfl) _)
    have cl3 : (wc.setCell ⟨bb, 2, none⟩ (.int .i64 ((r : Int) + n))).cell? ⟨fb, x, none⟩ = some (.int .u8 (dl.getD (c + (n - 1)) 0).toNat) := by
      rw [show x = r + n - 1 by omega]
      exact (World.cell?_of_block (Below.heap_setCell wc ⟨bb, 2, none⟩ _ fb (fun e => HSt.out.ne3 e.symm))).trans cl
    generalize wc.setCell ⟨bb, 2, none⟩ (.int .i64 ((r : Int) + n)) = w3 at HBr3 HF3 cl3 ⊢
    obtain ⟨g0, g1, g2, g3, g4, g5, g6, fz⟩ := br_cell HBr3.out
    have f5 := fz 5
    have f6 := fz 6
    have jb : x ≤ 14 := by omega
    have j3 : (x : Int) < 16384 := by omega
    have g2' : w3.cell? ⟨bb, 2, none⟩ = some (.int .i64 ((x : Int) + 1)) := by rw [g2]; rfl
    have hwA : IntKind.i64.wrap ((x : Int) + 1 - 1) = (x : Int) := by rw [IntKind.wrap_i64]; omega
    have hwB : IntKind.i64.wrap (x : Int) = (x : Int) := by rw [IntKind.wrap_i64]; omega
    have hz0 : (0 : Int) ≤ (x : Int) := by omega
    have hz1 : ((x : Int)).toNat = x := by omega
    have HX := keep hx1
    clear fz hx1 hz d0 d1 d2 d4 d5 d6 cl i1 i2 i3 f2 g2
    generalize hby : (dl.getD (c + (n - 1)) 0).toNat = by1 at cl3 hx
    clear hby
    go_region_held3 (fun w' => w'.cell? ⟨bb, 0, none⟩ = some (.slice (some ⟨fb, 0, none⟩) 16384 16384) ∧ w'.cell? ⟨bb, 2, none⟩ = some (.int .i64 ((x : Int) + 1)) ∧ w'.cell? ⟨fb, x, none⟩ = some (.int .u8 (by1 : Nat))) (first | (exact ⟨(br_cell (br_set5 HBr3.out _)).1, (br_cell (br_set5 HBr3.out _)).2.2.1, (World.cell?_of_block (Below.heap_setCell w3 ⟨bb, 5, none⟩ _ fb (fun e => HSt.out.ne3 e.symm))).trans cl3⟩) | go_keep) (fail)
    go_wp2_with fail
    go_ret2
    have hFa : Fr (fun i => i = bb) wc ((w3.setCell ⟨bb, 5, none⟩ (.int .i64 (by1 : Nat))).setCell ⟨bb, 6, none⟩ (.int .i64 (-1))).drew := ((HF3.out.setCell (p := ⟨bb, 5, none⟩) (fun _ => rfl) _).setCell (p := ⟨bb, 6, none⟩) (fun _ => rfl) _).drewN 1
    refine ⟨rfl, ?_, ?_, ?_⟩
    · exact (HF0.out.mono (T := S4 rb bb fb g) (fun i _ e => Or.inr (Or.inr (Or.inr e)))).next hFa (fun i _ e => Or.inr (Or.inl e))
    · refine (HSt.out.far HF0.out HT.out.n1 HT.out.n2 HT.out.n3 HT.out.lo).move (n := n) hFa HN.out.1 ⟨by1, -1, ?_⟩
      rw [HX.out]
      exact br_set6 (br_set5 HBr3.out _) (-1)
    · exact (hFa.block g (Array.getElem?_eq_some_iff.1 HG2.out).1 HT.out.n2).trans HG2.out
end Go.Proofs.YbulkgdyuDoor.C
