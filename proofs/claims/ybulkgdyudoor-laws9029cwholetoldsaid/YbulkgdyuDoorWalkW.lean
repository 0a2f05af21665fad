/-
  9029C, ninth text: io.ReadAtLeast (27), io.ReadFull (19) over the buffered reader.
-/
import Derived.Test.YbulkgdyuDoorWalkV
namespace Go.Proofs.YbulkgdyuDoor.C
open Go.RowKit Go.Lib Go.Proofs.YbulkgdyuDoor
set_option linter.unusedSimpArgs false
set_option linter.unusedVariables false
theorem nil43 (a : Addr) (w : World) : (nilAhead 425 43 (.pointer (some a)) "Read").run Ybad.prog w = .ok (some false) w := by kernel_rfl
attribute [local go_sem] meth40 meth43 ne_ev ne_nils eq_ev eq_nils nil43

theorem splice_two {α : Type} (L : List α) (off : Nat) (a b : List α) (h : off + a.length ≤ L.length) : splice (splice L off a) (off + a.length) b = splice L off (a ++ b) := by
  have h1 : (L.take off).length = off := by simp; omega
  have h2 : (L.take off ++ a).length = off + a.length := by rw [List.length_append, h1]
  have e : splice L off a = (L.take off ++ a) ++ L.drop (off + a.length) := by simp [splice]
  have t1 : ((L.take off ++ a) ++ L.drop (off + a.length)).take (off + a.length) = L.take off ++ a := by rw [← h2, List.take_left]
  have t2 : ((L.take off ++ a) ++ L.drop (off + a.length)).drop (off + a.length + b.length) = L.drop (off + a.length + b.length) := by
    rw [List.drop_append, h2, List.drop_eq_nil_of_le (by rw [h2]; omega), List.nil_append, List.drop_drop]
    congr 1
    omega
  unfold splice at e ⊢
  rw [e, t1, t2, List.length_append]
  simp [Nat.add_assoc]
theorem seg_add (dl : List UInt8) (c n k : Nat) : seg dl c (n + k) = seg dl c n ++ seg dl (c + n) k := by
  simp only [seg, List.take_add, List.drop_drop]
theorem splice_seg (L : List Value) (off c n k : Nat) (dl : List UInt8) (h : off + n ≤ L.length) (hn : c + n ≤ dl.length) :
    splice (splice L off (byteCells (seg dl c n))) (off + n) (byteCells (seg dl (c + n) k)) = splice L off (byteCells (seg dl c (n + k))) := by
  have hl : (byteCells (seg dl c n)).length = n := by rw [byteCells_length, seg_len dl c n hn]
  have := splice_two L off (byteCells (seg dl c n)) (byteCells (seg dl (c + n) k)) (by rw [hl]; exact h)
  rw [hl] at this
  rw [this, seg_add, byteCells_append]
theorem splice_none (L : List Value) (off c : Nat) (dl : List UInt8) : splice L off (byteCells (seg dl c 0)) = L := by
  simp [splice, seg, byteCells]

/-- the library's two errors, and the data's end: below B. -/
structure GE (B : Nat) (w : World) (ea eo un : Addr) : Prop where
  c0 : w.cell? ⟨0, 0, none⟩ = some (Ev eo)
  c1 : w.cell? ⟨1, 0, none⟩ = some (Ev un)
  b1 : 1 < B
  a : ∃ ca ta, w.heap[ea.block]? = some (.cells ca ta (0, 0))
  o : ∃ ca ta, w.heap[eo.block]? = some (.cells ca ta (0, 0))
  la : ea.block < B
  lo : eo.block < B
theorem GE.kept {B : Nat} {w w' : World} {ea eo un : Addr} (h : GE B w ea eo un) (hb : ∀ k, k < B → w'.heap[k]? = w.heap[k]?) : GE B w' ea eo un :=
  ⟨(World.cell?_of_block (hb 0 (by have := h.b1; omega))).trans h.c0, (World.cell?_of_block (hb 1 h.b1)).trans h.c1, h.b1, by rw [hb _ h.la]; exact h.a, by rw [hb _ h.lo]; exact h.o, h.la, h.lo⟩
set_option maxRecDepth 100000 in
theorem eq_same (W : World) (a : Addr) : (binOp .eql 38 (Ev a) (Ev a)).run Ybad.prog W = .ok (.bool true) W := by
  have h := run_equalIn_iface_ptr_same (P := Ybad.prog) W 9998 (i := (Ybad.prog.info? 53).get rfl) (j := (Ybad.prog.info? 55).get rfl) a Ybad.underlying38 Ybad.underlying53 (by kernel_rfl) (by kernel_rfl) (by kernel_rfl)
  simp only [binOp]
  simp [Op.equal, Op.maxDepth, h]
set_option maxRecDepth 100000 in
theorem eq_other (W : World) {a b : Addr} (hne : a ≠ b) (ha : ∃ ca ta, W.heap[a.block]? = some (.cells ca ta (0, 0))) (hb : ∃ ca ta, W.heap[b.block]? = some (.cells ca ta (0, 0))) : (binOp .eql 38 (Ev a) (Ev b)).run Ybad.prog W = .ok (.bool false) W := by
  obtain ⟨ca, ta, h1⟩ := ha
  obtain ⟨cb, tb, h2⟩ := hb
  have h := run_equalIn_iface_ptr_other (P := Ybad.prog) W 9998 (i := (Ybad.prog.info? 53).get rfl) (j := (Ybad.prog.info? 55).get rfl) Ybad.underlying38 Ybad.underlying53 (by kernel_rfl) (by kernel_rfl) (by kernel_rfl) (by decide) hne h1 h2
  simp only [binOp]
  simp [Op.equal, Op.maxDepth, h]
/-- how ReadAtLeast ends. -/
def AtPost (B : Nat) (w : World) (rb bb fb g off m : Nat) (cur : List Value) (dv : Value) (ea eo un : Addr) (dl : List UInt8) (ch c n : Nat) (er : Value) (w' : World) : Prop :=
  Fr (S4 rb bb fb g) w w' ∧ (∃ k' r', St B w' rb bb fb dv ea dl ch (c + n) k' r' .nilIface) ∧ c + n ≤ dl.length ∧ w'.heap[g]? = some (.cells (splice cur off (byteCells (seg dl c n))).toArray 5 (0, 0)) ∧
    ((n = m ∧ er = .nilIface) ∨ (n < m ∧ c + n = dl.length ∧ (er = Ev ea ∨ (ea = eo ∧ er = Ev un))))

set_option maxRecDepth 100000 in
set_option maxHeartbeats 4000000 in
theorem atLeast_any {B rb bb fb g off m pc ch c k r : Nat} {cur : List Value} {dv : Value} {ea eo un : Addr} {dl : List UInt8} (w : World) (hpc : m ≤ pc) (h : St B w rb bb fb dv ea dl ch c k r .nilIface) (ht : Tgt B w rb bb fb g off m cur) (hge : GE B w ea eo un) :
    Calls Ybad.prog 27 #[.iface 43 (.pointer (some ⟨bb, 0, none⟩)), .slice (some ⟨g, off, none⟩) m pc, .int .i64 m] w fun e w' => ∃ (n : Nat) (er : Value), e = .returned (.tuple #[.int .i64 n, er]) ∧ AtPost B w rb bb fb g off m cur dv ea eo un dl ch c n er w' := by
  have HGe := keep hge
  clear hge
  have HSt := keep h
  have HT := keep ht
  have hm := ht.pos
  have hm2 := ht.big
  clear h ht
  have e0 : ¬ ((m : Int) < (m : Int)) := by omega
  go_enter Ybad.func27, Ybad.ntmps27
  go_wp2_with fail
  go_loopg [6, 7] (m + 1) (fun gk s6 s7 wr => ∃ (n k' r' : Nat), s6 = .int .i64 n ∧ n ≤ m ∧ c + n ≤ dl.length ∧ St B wr rb bb fb dv ea dl ch (c + n) k' r' .nilIface ∧ wr.heap[g]? = some (.cells (splice cur off (byteCells (seg dl c n))).toArray 5 (0, 0)) ∧ Fr (S4 rb bb fb g) w wr ∧ ((s7 = .nilIface ∧ gk = m - n + 1) ∨ (s7 = Ev ea ∧ gk = 0 ∧ c + n = dl.length ∧ n < m)))
  case atStart => exact ⟨0, k, r, rfl, Nat.zero_le _, by have := HSt.out.le; omega, HSt.out, by rw [splice_none]; exact HT.out.row, Fr.refl _ _, Or.inl ⟨rfl, rfl⟩⟩
  case round =>
    obtain ⟨n, k', r', rfl, hn, hcn, hst, hrow, hfr, hcase⟩ := hrel
    have HS := keep hst
    have HRow := keep hrow
    have HFr := keep hfr
    have HCn := keep hcn
    rcases hcase with ⟨rfl, rfl⟩ | ⟨rfl, rfl, hend, hnm⟩
    · by_cases hlt : n < m
      · have e1 : (n : Int) < (m : Int) := by omega
        have e2 : ¬ (pc = n) := by omega
        have e3 : (n : Int) ≤ (m : Int) := by omega
        have HRead := keep (fun q => read_any (pc := pc - n) (off := off + n) (m := m - n) (wr.drewN q) (show St B (wr.drewN q) rb bb fb dv ea dl ch (c + n) k' r' .nilIface from ⟨hst.rd, hst.br, hst.buf, hst.fit, hst.le, hst.ne1, hst.ne2, hst.ne3, hst.lo, hst.data, hst.small, hst.chs⟩) (show Tgt B (wr.drewN q) rb bb fb g (off + n) (m - n) (splice cur off (byteCells (seg dl c n))) from ⟨hrow, by have := HT.out.fit; rw [length_splice _ _ _ (by rw [byteCells_length, seg_len dl c n hcn]; omega)]; omega, HT.out.n1, HT.out.n2, HT.out.n3, HT.out.lo, by omega, by omega⟩))
        clear hst hrow hfr hcn
        go_upto_region 5 with fail
        go_cut [8, 7] (fun s8 s7 wc => ∃ (nn : Nat) (er : Value) (q : Nat), s8 = .int .i64 nn ∧ s7 = er ∧ ReadPost B (wr.drewN q) rb bb fb g (off + n) (m - n) (splice cur off (byteCells (seg dl c n))) dv ea dl ch (c + n) nn er wc)
        case first =>
          go_region_with (go_at_call 59; refine (HRead.out _).mono ?_; rintro e w2 ⟨nn, er, rfl, hp⟩; have HP := keep hp; clear hp)
          all_goals (go_wp2_with fail)
          all_goals go_meet
          all_goals exact ⟨nn, er, _, rfl, rfl, HP.out⟩
        case rest =>
          obtain ⟨nn, er, q, rfl, rfl, hF, hc2⟩ := hcut
          have HF := keep (show Fr (S4 rb bb fb g) w wc from HFr.out.next ⟨hF.os, hF.tape, hF.output, hF.size, hF.block⟩ (fun _ _ e => e))
          clear hF HRead
          rcases hc2 with ⟨h1, h2, h3, rfl, ⟨k2, r2, h4⟩, h5⟩ | ⟨h1, rfl, rfl, ⟨k2, r2, h4⟩, h5⟩
          · have H4 := keep h4
            have H5 := keep h5
            have H3 := keep h3
            have hnn : nn ≤ 100000000 := by omega
            clear h4 h5
            go_wp2_with fail
            go_roundg (m - (n + nn) + 1)
            case measure => omega
            case rel => exact ⟨n + nn, k2, r2, by go_num, by omega, by omega, by have h := H4.out; rwa [Nat.add_assoc] at h, by rw [H5.out, splice_seg _ _ _ _ _ _ (by have := HT.out.fit; omega) HCn.out], HF.out, Or.inl ⟨rfl, rfl⟩⟩
          · have H4 := keep h4
            have H5 := keep h5
            clear h4 h5
            go_wp2_with fail
            go_roundg 0
            case measure => omega
            case rel => exact ⟨n, k2, r2, by go_num, by omega, HCn.out, H4.out, H5.out, HF.out, Or.inr ⟨rfl, rfl, h1, hlt⟩⟩
      · obtain rfl : n = m := by omega
        have e1 : ¬ ((n : Int) < (n : Int)) := by omega
        clear hst hrow hfr hcn
        go_wp2_with fail
        go_ret2
        exact ⟨n, .nilIface, rfl, HFr.out, ⟨k', r', HS.out⟩, HCn.out, HRow.out, Or.inl ⟨rfl, rfl⟩⟩
    · have e1 : (n : Int) < (m : Int) := by omega
      have HG := keep (HGe.out.kept (w' := wr) (fun i hi => hfr.block i (by have h1 := HSt.out.lo; have h2 := (Array.getElem?_eq_some_iff.1 (show w.heap[rb]? = _ from HSt.out.rd)).1; omega) (by have h1 := HSt.out.lo; have h2 := HT.out.lo; show ¬ (i = rb ∨ i = bb ∨ i = fb ∨ i = g); omega)))
      have g0 := HG.out.c0
      have g1 := HG.out.c1
      clear hst hrow hfr hcn
      by_cases hz : n = 0
      · subst hz
        go_wp2_with fail
        go_ret2
        exact ⟨0, Ev ea, rfl, HFr.out, ⟨k', r', HS.out⟩, HCn.out, HRow.out, Or.inr ⟨hnm, hend, Or.inl rfl⟩⟩
      · have e2 : (0 : Int) < (n : Int) := by omega
        by_cases hee : ea = eo
        · subst hee
          have q1 := eq_same wr ea
          go_wp2_with fail
          go_ret2
          exact ⟨n, Ev un, rfl, HFr.out, ⟨k', r', HS.out⟩, HCn.out, HRow.out, Or.inr ⟨hnm, hend, Or.inr ⟨rfl, rfl⟩⟩⟩
        · have q1 := eq_other wr hee HG.out.a HG.out.o
          go_wp2_with fail
          go_ret2
          exact ⟨n, Ev ea, rfl, HFr.out, ⟨k', r', HS.out⟩, HCn.out, HRow.out, Or.inr ⟨hnm, hend, Or.inl rfl⟩⟩

set_option maxRecDepth 100000 in
set_option maxHeartbeats 1000000 in
/-- io.ReadFull. -/
theorem full_any {B rb bb fb g off m pc ch c k r : Nat} {cur : List Value} {dv : Value} {ea eo un : Addr} {dl : List UInt8} (w : World) (hpc : m ≤ pc) (h : St B w rb bb fb dv ea dl ch c k r .nilIface) (ht : Tgt B w rb bb fb g off m cur) (hge : GE B w ea eo un) :
    Calls Ybad.prog 19 #[.iface 43 (.pointer (some ⟨bb, 0, none⟩)), .slice (some ⟨g, off, none⟩) m pc] w fun e w' => ∃ (n : Nat) (er : Value), e = .returned (.tuple #[.int .i64 n, er]) ∧ AtPost B w rb bb fb g off m cur dv ea eo un dl ch c n er w' := by
  have HA := keep (atLeast_any w hpc h ht hge)
  have hm2 := ht.big
  clear h ht hge
  go_enter Ybad.func19, Ybad.ntmps19
  go_wp2_with (go_at_call 27; refine HA.out.mono ?_; rintro e w2 ⟨n, er, rfl, hp⟩; have HP := keep hp; clear hp)
  go_ret2
  exact ⟨n, er, rfl, HP.out⟩
end Go.Proofs.YbulkgdyuDoor.C
