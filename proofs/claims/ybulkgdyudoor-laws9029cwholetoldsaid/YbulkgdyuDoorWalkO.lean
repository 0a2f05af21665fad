/-
  9029C, third text: fill (22).
-/
import Derived.Test.YbulkgdyuDoorWalkN
namespace Go.Proofs.YbulkgdyuDoor.C
open Go.RowKit Go.Lib Go.Proofs.YbulkgdyuDoor
set_option linter.unusedSimpArgs false
set_option linter.unusedVariables false
attribute [local go_sem] meth40 meth43 ne_ev ne_nils eq_ev eq_nils

/-- how the reader's Read ends. -/
def RdPost (w : World) (rb g off m ch pos : Nat) (t : TypeId) (cur : List Value) (dv : Value) (ea : Addr) (dl : List UInt8) (n : Nat) (er : Value) (w' : World) : Prop :=
  (1 ≤ n ∧ n ≤ 7 ∧ n ≤ m ∧ pos + n ≤ dl.length ∧ er = .nilIface ∧ RdAt w' rb dv (pos + n) ch (Ev ea) ∧ w'.heap[g]? = some (.cells (splice cur off (byteCells (seg dl pos n))).toArray t (0, 0)) ∧ Fr (fun i => i = rb ∨ i = g) w w') ∨ (pos = dl.length ∧ n = 0 ∧ er = Ev ea ∧ ∃ q, w' = w.drewN q)
def FillPost (B : Nat) (w : World) (rb bb fb : Nat) (dv : Value) (ea : Addr) (dl : List UInt8) (ch c : Nat) (e : Ending) (w' : World) : Prop :=
  e = .returned (.tuple #[]) ∧ Fr (fun i => i = rb ∨ i = bb ∨ i = fb) w w' ∧ ((∃ n, 1 ≤ n ∧ St B w' rb bb fb dv ea dl ch c n 0 .nilIface) ∨ (c = dl.length ∧ St B w' rb bb fb dv ea dl ch c 0 0 (Ev ea)))

theorem splice_in {α : Type} (L : List α) (off : Nat) (cs : List α) (j : Nat) (hj : j < cs.length) (ho : off ≤ L.length) : (splice L off cs)[off + j]? = cs[j]? := by
  unfold splice
  rw [List.getElem?_append_right (by simp; omega)]
  have : off + j - (L.take off).length = j := by simp; omega
  rw [this, List.getElem?_append_left hj]
theorem splice_low {α : Type} (L : List α) (off : Nat) (cs : List α) (j : Nat) (hj : j < off) (ho : off ≤ L.length) : (splice L off cs)[j]? = L[j]? := by
  unfold splice
  rw [List.getElem?_append_left (by simp; omega), List.getElem?_take_of_lt hj]
theorem seg_cell (dl : List UInt8) (c n j : Nat) (h : c + n ≤ dl.length) (hj : j < n) : (byteCells (seg dl c n))[j]? = some (.int .u8 (dl.getD (c + j) 0).toNat) := by
  simp only [byteCells, List.getElem?_map, seg_get dl c n j h hj, List.getElem?_eq_getElem (show c + j < dl.length by omega), Option.map_some]
  simp [show c + j < dl.length by omega]
theorem Fr.tri {rb bb fb : Nat} {w w' : World} (h : Fr (fun i => i = rb ∨ i = fb) w w') : Fr (fun i => i = rb ∨ i = bb ∨ i = fb) w w' := h.mono (fun i _ e => e.elim Or.inl (fun e => Or.inr (Or.inr e)))
/-- behind a Read that handed out n bytes. -/
theorem fill_got {B rb bb fb ch c n r0 k0 : Nat} {dv er0 : Value} {ea : Addr} {dl : List UInt8} {w0 w3 w2 : World} {cur : List Value} {lb lr z : Int} (h : St B w0 rb bb fb dv ea dl ch c k0 r0 er0) (hF3 : Fr (fun i => i = rb ∨ i = bb ∨ i = fb) w0 w3)
    (hbr : w3.heap[bb]? = some (brCells fb rb 0 0 .nilIface lb lr)) (hcl : cur.length = 16384) (hn1 : 1 ≤ n) (hn2 : n ≤ 7) (hn3 : c + n ≤ dl.length) (hr2 : RdAt w2 rb dv (c + n) ch (Ev ea)) (hg2 : w2.heap[fb]? = some (.cells (splice cur 0 (byteCells (seg dl c n))).toArray 5 (0, 0)))
    (hf2 : Fr (fun i => i = rb ∨ i = fb) w3 w2) (hz : z = (n : Nat)) :
    Fr (fun i => i = rb ∨ i = bb ∨ i = fb) w0 (w2.setCell ⟨bb, 3, none⟩ (.int .i64 z)) ∧ St B (w2.setCell ⟨bb, 3, none⟩ (.int .i64 z)) rb bb fb dv ea dl ch c n 0 .nilIface := by
  have hb2 : w2.heap[bb]? = some (brCells fb rb 0 0 .nilIface lb lr) := (hf2.block bb (Array.getElem?_eq_some_iff.1 hbr).1 (by have := h.ne1; have := h.ne3; omega)).trans hbr
  have hF : Fr (fun i => i = rb ∨ i = bb ∨ i = fb) w0 (w2.setCell ⟨bb, 3, none⟩ (.int .i64 z)) := (hF3.next (hf2.mono (T := fun i => i = rb ∨ i = bb ∨ i = fb) (fun i _ e => by omega)) (fun _ _ e => e)).setCell (p := ⟨bb, 3, none⟩) (fun _ => Or.inr (Or.inl rfl)) _
  obtain ⟨l1, l2, hb0⟩ := h.br
  have hbs := (Array.getElem?_eq_some_iff.1 hb0).1
  refine ⟨hF, ?_, ⟨lb, lr, ?_⟩, ⟨splice cur 0 (byteCells (seg dl c n)), ?_, ?_, fun j hj => ?_⟩, by omega, hn3, h.ne1, h.ne2, h.ne3, h.lo, h.data.kept (fun k hk => hF.block k (by have := h.lo; omega) (by have := h.lo; omega)), h.small, h.chs⟩
  · unfold RdAt
    rw [Below.heap_setCell w2 ⟨bb, 3, none⟩ _ rb h.ne1]
    exact hr2
  · rw [Nat.zero_add]
    exact br_set3 hb2 n hz
  · rw [Below.heap_setCell w2 ⟨bb, 3, none⟩ _ fb (fun e => h.ne3 e.symm)]
    exact hg2
  · rw [length_splice _ _ _ (by rw [byteCells_length, seg_len dl c n hn3]; omega)]
    exact hcl
  · rw [splice_in _ _ _ _ (by rw [byteCells_length, seg_len dl c n hn3]; exact hj) (by omega)]
    exact seg_cell dl c n j hn3 hj
/-- at the data's end. -/
theorem fill_no {B rb bb fb ch c r0 q : Nat} {dv er0 : Value} {ea : Addr} {dl : List UInt8} {w0 w3 : World} {cur : List Value} {lb lr : Int} (h : St B w0 rb bb fb dv ea dl ch c 0 r0 er0) (hF3 : Fr (fun i => i = rb ∨ i = bb ∨ i = fb) w0 w3)
    (hbr : w3.heap[bb]? = some (brCells fb rb 0 0 .nilIface lb lr)) (hcl : cur.length = 16384) (hr2 : RdAt w3 rb dv c ch (Ev ea)) (hg2 : w3.heap[fb]? = some (.cells cur.toArray 5 (0, 0))) :
    Fr (fun i => i = rb ∨ i = bb ∨ i = fb) w0 (((w3.drewN q).setCell ⟨bb, 3, none⟩ (.int .i64 0)).setCell ⟨bb, 4, none⟩ (Ev ea)) ∧ St B (((w3.drewN q).setCell ⟨bb, 3, none⟩ (.int .i64 0)).setCell ⟨bb, 4, none⟩ (Ev ea)) rb bb fb dv ea dl ch c 0 0 (Ev ea) := by
  have hF : Fr (fun i => i = rb ∨ i = bb ∨ i = fb) w0 (((w3.drewN q).setCell ⟨bb, 3, none⟩ (.int .i64 0)).setCell ⟨bb, 4, none⟩ (Ev ea)) := ((hF3.drewN q).setCell (p := ⟨bb, 3, none⟩) (fun _ => Or.inr (Or.inl rfl)) _).setCell (p := ⟨bb, 4, none⟩) (fun _ => Or.inr (Or.inl rfl)) _
  obtain ⟨l1, l2, hb0⟩ := h.br
  have hbs := (Array.getElem?_eq_some_iff.1 hb0).1
  refine ⟨hF, ?_, ⟨lb, lr, ?_⟩, ⟨cur, ?_, hcl, fun j hj => absurd hj (Nat.not_lt_zero j)⟩, by omega, h.le, h.ne1, h.ne2, h.ne3, h.lo, h.data.kept (fun k hk => hF.block k (by have := h.lo; omega) (by have := h.lo; omega)), h.small, h.chs⟩
  · unfold RdAt
    rw [Below.heap_setCell _ ⟨bb, 4, none⟩ _ rb h.ne1, Below.heap_setCell _ ⟨bb, 3, none⟩ _ rb h.ne1]
    exact hr2
  · exact br_set4 (br_set3 (w := w3.drewN q) hbr 0 rfl) _
  · rw [Below.heap_setCell _ ⟨bb, 4, none⟩ _ fb (fun e => h.ne3 e.symm), Below.heap_setCell _ ⟨bb, 3, none⟩ _ fb (fun e => h.ne3 e.symm)]
    exact hg2
theorem rd_one {rb g off m pc B ch pos : Nat} {t : TypeId} {cur : List Value} {dv : Value} {ea : Addr} {dl : List UInt8} (w : World) (hm : 0 < m) (hm2 : m ≤ 100000000) (hdl : dl.length ≤ 1048576) (hch : 1 ≤ ch ∧ ch ≤ 7) (hp : pos ≤ dl.length)
    (hd : DAt B w dv dl) (hr : RdAt w rb dv pos ch (Ev ea)) (hg : w.heap[g]? = some (.cells cur.toArray t (0, 0))) (hne : g ≠ rb) (hfit : off + m ≤ cur.length) (hBr : B ≤ rb) (hBg : B ≤ g) :
    Calls Ybad.prog 58 #[.pointer (some ⟨rb, 0, none⟩), .slice (some ⟨g, off, none⟩) m pc] w fun e w' => ∃ (n : Nat) (er : Value), e = .returned (.tuple #[.int .i64 n, er]) ∧ Hid (RdPost w rb g off m ch pos t cur dv ea dl n er w') := by
  refine (rd_any w hm hm2 hdl hch hp hd hr hg hne hfit hBr hBg).mono ?_
  rintro e w' (⟨n, h1, h2, h3, h4, rfl, h5, h6, h7⟩ | ⟨h1, rfl, q, rfl⟩)
  · exact ⟨n, .nilIface, rfl, keep (Or.inl ⟨h1, h2, h3, h4, rfl, h5, h6, h7⟩)⟩
  · exact ⟨0, Ev ea, rfl, keep (Or.inr ⟨h1, rfl, rfl, q, rfl⟩)⟩

set_option maxRecDepth 100000 in
set_option maxHeartbeats 4000000 in
theorem fill_zero {B rb bb fb ch c : Nat} {dv : Value} {ea : Addr} {dl : List UInt8} (w : World) (h : St B w rb bb fb dv ea dl ch c 0 0 .nilIface) :
    Calls Ybad.prog 22 #[.pointer (some ⟨bb, 0, none⟩)] w fun e w' => FillPost B w rb bb fb dv ea dl ch c e w' := by
  obtain ⟨lb, lr, hbr⟩ := h.br
  obtain ⟨cur, hcur, hcl, _⟩ := h.buf
  have HSt := keep h
  have HBr3 := keep (show w.heap[bb]? = some (brCells fb rb 0 0 .nilIface lb lr) from hbr)
  have HF3 := keep (show Fr (fun i => i = rb ∨ i = bb ∨ i = fb) w w from Fr.refl _ _)
  have HRd3 := keep (show RdAt w rb dv c ch (Ev ea) from h.rd)
  have HCur3 := keep (show w.heap[fb]? = some (.cells cur.toArray 5 (0, 0)) from hcur)
  have HBlt := keep (show bb < w.heap.size from (Array.getElem?_eq_some_iff.1 hbr).1)
  have HCl := keep hcl
  clear h hbr hcur hcl
  go_enter Ybad.func22, Ybad.ntmps22
  obtain ⟨e0, e1, e2, e3, e4, e5, e6, fz⟩ := br_cell HBr3.out
  have f3 := fz 3
  have f4 := fz 4
  clear fz
  have hd3 := HSt.out.data.kept (w' := w) (fun k hk => HF3.out.block k (Nat.lt_of_lt_of_le hk (Nat.le_trans HSt.out.lo.2.1 (Nat.le_of_lt HBlt.out))) (by have := HSt.out.lo; rintro (e | e | e) <;> omega))
  have HRd := keep (fun q => rd_one (pc := 16384) (m := 16384) (off := 0) (w.drewN q) (by decide) (by decide) HSt.out.small HSt.out.chs HSt.out.le (hd3.drewN q) HRd3.out HCur3.out (fun e => HSt.out.ne2 e.symm) (by have := HCl.out; omega) HSt.out.lo.1 HSt.out.lo.2.2)
  clear hd3
  go_wp2_with fail
  go_quiet (fail)
  go_wp2_with fail
  go_loopg [2] 100 (fun gk s2 wr => gk = 100 ∧ s2 = .int .i64 100 ∧ ∃ m', wr = w.drewN m')
  case atStart => exact ⟨rfl, rfl, _, rfl⟩
  case round =>
    obtain ⟨rfl, rfl, m', rfl⟩ := hrel
    go_wp2_with fail
    go_region_with (go_at_call 58; refine (HRd.out _).mono ?_; rintro e w2 ⟨n, er, rfl, HP⟩)
    all_goals (rcases HP.out with ⟨hn1, hn2, _, hn3, rfl, hr2, hg2, hf2⟩ | ⟨hpe, rfl, rfl, q, hw2⟩)
    all_goals (clear HP HRd)
    all_goals (first | (have HN := keep (And.intro hn1 (And.intro hn2 (And.intro hn3 (And.intro hr2 (And.intro hg2 hf2))))); have hbr2 := (hf2.block bb (Array.getElem?_eq_some_iff.1 HBr3.out).1 (by have := HSt.out.ne1; have := HSt.out.ne3; omega)).trans HBr3.out; obtain ⟨g0, g1, g2, g3, g4, g5, g6, fz⟩ := br_cell hbr2; have f3 := fz 3; have f4 := fz 4; have hn0 : ¬ ((n : Int) < 0) := (by omega); have hn9 : (0 : Int) < (n : Int) := (by omega); clear fz hbr2 hr2 hg2 hf2 hn3 hn1) | (rw [hw2]; clear hw2 w2))
    all_goals (go_wp2_with fail)
    all_goals go_end0
    all_goals (first | (refine ⟨rfl, ?_⟩; have hg := fill_got (z := ((n : Nat) : Int)) HSt.out HF3.out HBr3.out HCl.out HN.out.1 HN.out.2.1 HN.out.2.2.1 HN.out.2.2.2.1 HN.out.2.2.2.2.1 (show Fr (fun i => i = rb ∨ i = fb) w w2 from ⟨HN.out.2.2.2.2.2.os, HN.out.2.2.2.2.2.tape, HN.out.2.2.2.2.2.output, HN.out.2.2.2.2.2.size, HN.out.2.2.2.2.2.block⟩) rfl; exact ⟨hg.1, Or.inl ⟨n, HN.out.1, hg.2⟩⟩) | (refine ⟨rfl, ?_⟩; have hg := fun q => fill_no (q := q) HSt.out HF3.out HBr3.out HCl.out HRd3.out HCur3.out; exact ⟨(hg _).1, Or.inr ⟨hpe, (hg _).2⟩⟩))

end Go.Proofs.YbulkgdyuDoor.C
