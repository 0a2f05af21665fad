/-
  9029C, eighth text: Read (59) where the buffer is empty and p is long: the reader reads into p. Read, whole.
-/
import Derived.Test.YbulkgdyuDoorWalkU
namespace Go.Proofs.YbulkgdyuDoor.C
open Go.RowKit Go.Lib Go.Proofs.YbulkgdyuDoor
set_option linter.unusedSimpArgs false
set_option linter.unusedVariables false
attribute [local go_sem] meth40 meth43 ne_ev ne_nils eq_ev eq_nils

set_option maxRecDepth 100000 in
set_option maxHeartbeats 4000000 in
theorem read_long_end {B rb bb fb g off m pc ch c r : Nat} {cur : List Value} {dv : Value} {ea : Addr} {dl : List UInt8} (w : World) (hs : 16384 ≤ m) (hc : c = dl.length) (h : St B w rb bb fb dv ea dl ch c 0 r .nilIface) (ht : Tgt B w rb bb fb g off m cur) :
    Calls Ybad.prog 59 #[.pointer (some ⟨bb, 0, none⟩), .slice (some ⟨g, off, none⟩) m pc] w fun e w' => ∃ (n : Nat) (er : Value), e = .returned (.tuple #[.int .i64 n, er]) ∧ ReadPost B w rb bb fb g off m cur dv ea dl ch c n er w' := by
  obtain ⟨lb, lr, hbr⟩ := h.br
  have HSt := keep h
  have HT := keep ht
  have HC := keep hc
  have hm := ht.pos
  have hm2 := ht.big
  obtain ⟨c0, c1, c2, c3, c4, c5, c6, fz⟩ := br_cell hbr
  have f4 := fz 4
  have e1 : ¬ ((m : Int) = 0) := by omega
  have e2 : ((16384 : Int) ≤ (m : Int)) := by omega
  have HBr := keep hbr
  have HRd := keep (fun q => rd_end (m := m) (pc := pc) (pa := some ⟨g, off, none⟩) (w.drewN q) hm hm2 h.small (h.data.drewN q) (show RdAt (w.drewN q) rb dv dl.length ch (Ev ea) from by have h := h.rd; rw [Nat.add_zero, hc] at h; exact h))
  have HEr := keep (fun q => readErr_any ((w.setCell ⟨bb, 4, none⟩ (Ev ea)).drewN q) (show ((w.setCell ⟨bb, 4, none⟩ (Ev ea)).drewN q).heap[bb]? = _ from br_set4 hbr (Ev ea)))
  clear h hbr fz ht hc
  go_enter Ybad.func59, Ybad.ntmps59
  go_wp2_with fail
  go_quiet (fail)
  go_wp2_with (first | (go_at_call 58; refine (HRd.out _).mono ?_; rintro e w2 ⟨rfl, q, hw2⟩; rw [hw2]; clear hw2 w2) | (go_at_call 21; refine (HEr.out _).mono ?_; rintro e w5 ⟨rfl, hw5⟩; rw [hw5]; clear hw5 w5))
  go_ret2
  have hFa : ∀ q', Fr (fun i => i = bb) w (((w.setCell ⟨bb, 4, none⟩ (Ev ea)).drewN q').setCell ⟨bb, 4, none⟩ .nilIface) := fun q' => (((Fr.refl (fun i => i = bb) w).setCell (p := ⟨bb, 4, none⟩) (fun _ => rfl) _).drewN q').setCell (p := ⟨bb, 4, none⟩) (fun _ => rfl) _
  exact ⟨0, Ev ea, rfl, (hFa _).mono (fun i _ e => Or.inr (Or.inl e)), Or.inr ⟨HC.out, rfl, rfl, ⟨0, r, HSt.out.move (n := 0) (hFa _) (Nat.le_refl _) ⟨_, _, br_set4 (w := (w.setCell ⟨bb, 4, none⟩ (Ev ea)).drewN _) (br_set4 HBr.out _) _⟩⟩, ((hFa _).block g (Array.getElem?_eq_some_iff.1 HT.out.row).1 HT.out.n2).trans HT.out.row⟩⟩

theorem read_direct {B rb bb fb g off m ch c r n : Nat} {cur : List Value} {dv : Value} {ea : Addr} {dl : List UInt8} {w w2 w' : World} {X : Option Obj} {lb lr : Int} (h : St B w rb bb fb dv ea dl ch c 0 r .nilIface) (ht : Tgt B w rb bb fb g off m cur) (hn : c + n ≤ dl.length)
    (h1 : RdAt w2 rb dv (c + n) ch (Ev ea)) (h2 : w2.heap[g]? = X) (h3 : Fr (fun i => i = rb ∨ i = g) w w2) (h4 : Fr (fun i => i = bb) w2 w') (h5 : w'.heap[bb]? = some (brCells fb rb r (r + 0) .nilIface lb lr)) :
    Fr (S4 rb bb fb g) w w' ∧ St B w' rb bb fb dv ea dl ch (c + n) 0 r .nilIface ∧ w'.heap[g]? = X := by
  have hF : Fr (S4 rb bb fb g) w w' := (h3.mono (T := S4 rb bb fb g) (fun i _ e => e.elim Or.inl (fun e => Or.inr (Or.inr (Or.inr e))))).next h4 (fun i _ e => Or.inr (Or.inl e))
  obtain ⟨l1, l2, hb0⟩ := h.br
  have hbs := (Array.getElem?_eq_some_iff.1 hb0).1
  obtain ⟨bc, hcur, hcl, _⟩ := h.buf
  have hfs := (Array.getElem?_eq_some_iff.1 hcur).1
  have hgs := (Array.getElem?_eq_some_iff.1 ht.row).1
  have n1 := ht.n1
  have n2 := ht.n2
  have n3 := ht.n3
  have lo := ht.lo
  have m1 := h.ne1
  have m2 := h.ne2
  have m3 := h.ne3
  refine ⟨hF, ⟨?_, ⟨lb, lr, h5⟩, ⟨bc, (h4.block fb (Nat.lt_of_lt_of_le hfs h3.size) (fun e => m3 e.symm)).trans ((h3.block fb hfs (show ¬ (fb = rb ∨ fb = g) by omega)).trans hcur), hcl, fun j hj => absurd hj (Nat.not_lt_zero j)⟩, h.fit, hn, h.ne1, h.ne2, h.ne3, h.lo, h.data.kept (fun k hk => hF.block k (by have := h.lo; omega) (by have := h.lo; unfold S4; omega)), h.small, h.chs⟩, ?_⟩
  · exact (h4.block rb (Array.getElem?_eq_some_iff.1 (show w2.heap[rb]? = _ from h1)).1 m1).trans h1
  · exact (h4.block g (Nat.lt_of_lt_of_le hgs h3.size) n2).trans h2

set_option maxRecDepth 100000 in
set_option maxHeartbeats 4000000 in
theorem read_long_some {B rb bb fb g off m pc ch c r n : Nat} {cur : List Value} {dv : Value} {ea : Addr} {dl : List UInt8} (w : World) (hs : 16384 ≤ m) (hc : c < dl.length) (hn : n = cnt ch m (dl.length - c)) (h : St B w rb bb fb dv ea dl ch c 0 r .nilIface) (ht : Tgt B w rb bb fb g off m cur) :
    Calls Ybad.prog 59 #[.pointer (some ⟨bb, 0, none⟩), .slice (some ⟨g, off, none⟩) m pc] w fun e w' => ∃ (n : Nat) (er : Value), e = .returned (.tuple #[.int .i64 n, er]) ∧ ReadPost B w rb bb fb g off m cur dv ea dl ch c n er w' := by
  obtain ⟨lb, lr, hbr⟩ := h.br
  have HSt := keep h
  have HT := keep ht
  have hm := ht.pos
  have hm2 := ht.big
  have HN := keep (show 1 ≤ n ∧ n ≤ 7 ∧ n ≤ m ∧ c + n ≤ dl.length by have := h.chs; rw [hn]; unfold cnt; omega)
  obtain ⟨c0, c1, c2, c3, c4, c5, c6, fz⟩ := br_cell hbr
  have e1 : ¬ ((m : Int) = 0) := by omega
  have e2 : ((16384 : Int) ≤ (m : Int)) := by omega
  have HBr := keep hbr
  have HRd := keep (fun q => rd_some (pc := pc) (m := m) (off := off) (w.drewN q) hm hm2 h.small h.chs hc (h.data.drewN q) h.rd ht.row ht.n1 ht.fit h.lo.1 ht.lo)
  rw [← hn] at HRd
  have HBlt := keep (show bb < w.heap.size from (Array.getElem?_eq_some_iff.1 hbr).1)
  obtain ⟨x, hx1⟩ : ∃ x, n = x + 1 := ⟨n - 1, by have := HN.out; omega⟩
  have jb : x ≤ 7 := by have := HN.out; omega
  have j3 : (x : Int) < (m : Int) := by have := HN.out; omega
  subst hx1
  have hlt256 : (dl.getD (c + x) 0).toNat < 256 := UInt8.toNat_lt _
  have hgb : g ≠ bb := HT.out.n2
  have hgb2 : bb ≠ g := fun e => HT.out.n2 e.symm
  clear h hbr fz ht hn
  go_enter Ybad.func59, Ybad.ntmps59
  go_wp2_with fail
  go_quiet (fail)
  go_wp2_with (first | (go_at_call 58; refine (HRd.out _).mono ?_; rintro e w2 ⟨rfl, hp1, hp2, hp3⟩; have hq := (hp3.block bb HBlt.out (by have h1 := HSt.out.ne1; have h2 := HT.out.n2; show ¬ (bb = rb ∨ bb = g); omega)).trans HBr.out; obtain ⟨_, _, _, _, q4, q5, q6, qz⟩ := br_cell hq; have z4 := qz 4; have z5 := qz 5; have z6 := qz 6; have HQ := keep hq; have HP := keep (And.intro hp1 (And.intro hp2 hp3)); have cl : w2.cell? ⟨g, off + x, none⟩ = some (.int .u8 (dl.getD (c + x) 0).toNat) := (by rw [cell_all hp2, List.getElem?_toArray, splice_in _ _ _ _ (by rw [byteCells_length, seg_len dl c (x + 1) HN.out.2.2.2]; omega) (by have := HT.out.fit; omega)]; exact seg_cell dl c (x + 1) x HN.out.2.2.2 (by omega)); clear qz hq hp1 hp2 hp3) | (go_at_call 21; refine (readErr_any _ (br_set6 (br_set5 (br_set4 HQ.out _) _) _)).mono ?_; rintro e w5 ⟨rfl, hw5⟩; rw [hw5]; clear hw5 w5))
  go_ret2
  have hd := read_direct HSt.out HT.out HN.out.2.2.2 HP.out.1 HP.out.2.1 (show Fr (fun i => i = rb ∨ i = g) w w2 from ⟨HP.out.2.2.os, HP.out.2.2.tape, HP.out.2.2.output, HP.out.2.2.size, HP.out.2.2.block⟩)
    (((((Fr.refl (fun i => i = bb) w2).setCell (p := ⟨bb, 4, none⟩) (fun _ => rfl) .nilIface).setCell (p := ⟨bb, 5, none⟩) (fun _ => rfl) (.int .i64 (wrap64 (dl[c + x]?.getD 0).toNat))).setCell (p := ⟨bb, 6, none⟩) (fun _ => rfl) (.int .i64 (-1))).setCell (p := ⟨bb, 4, none⟩) (fun _ => rfl) .nilIface)
    (br_set4 (br_set6 (br_set5 (br_set4 HQ.out _) _) _) _)
  exact ⟨x + 1, .nilIface, rfl, hd.1, Or.inl ⟨HN.out.1, HN.out.2.2.1, HN.out.2.2.2, rfl, ⟨0, r, hd.2.1⟩, hd.2.2⟩⟩

/-- Read. -/
theorem read_any {B rb bb fb g off m pc ch c k r : Nat} {cur : List Value} {dv : Value} {ea : Addr} {dl : List UInt8} (w : World) (h : St B w rb bb fb dv ea dl ch c k r .nilIface) (ht : Tgt B w rb bb fb g off m cur) :
    Calls Ybad.prog 59 #[.pointer (some ⟨bb, 0, none⟩), .slice (some ⟨g, off, none⟩) m pc] w fun e w' => ∃ (n : Nat) (er : Value), e = .returned (.tuple #[.int .i64 n, er]) ∧ ReadPost B w rb bb fb g off m cur dv ea dl ch c n er w' := by
  rcases Nat.eq_zero_or_pos k with rfl | hk
  · have hle : c ≤ dl.length := h.le
    rcases Nat.lt_or_ge m 16384 with hm | hm
    · rcases Nat.lt_or_ge c dl.length with hc | hc
      · exact read_short_some w hm hc h ht
      · exact read_short_end w hm (by omega) h ht
    · rcases Nat.lt_or_ge c dl.length with hc | hc
      · exact read_long_some w hm hc rfl h ht
      · exact read_long_end w hm (by omega) h ht
  · refine (read_buf w hk h ht rfl).mono ?_
    rintro e w' ⟨rfl, h1, h2, h3⟩
    have hle := h.le
    have hp := ht.pos
    exact ⟨_, _, rfl, h1, Or.inl ⟨by omega, by omega, by omega, rfl, ⟨_, _, h2⟩, h3⟩⟩
end Go.Proofs.YbulkgdyuDoor.C
