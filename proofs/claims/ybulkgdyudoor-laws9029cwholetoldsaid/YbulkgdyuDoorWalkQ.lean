/-
  9029C, fifth text: ReadByte (15).
-/
import Derived.Test.YbulkgdyuDoorWalkP
namespace Go.Proofs.YbulkgdyuDoor.C
open Go.RowKit Go.Lib Go.Proofs.YbulkgdyuDoor
set_option linter.unusedSimpArgs false
set_option linter.unusedVariables false
attribute [local go_sem] meth40 meth43 ne_ev ne_nils eq_ev eq_nils

abbrev S3 (rb bb fb : Nat) : Nat → Prop := fun i => i = rb ∨ i = bb ∨ i = fb
/-- n bytes of the buffer are handed on. -/
theorem St.move {B rb bb fb ch c k r n : Nat} {dv er er' : Value} {ea : Addr} {dl : List UInt8} {w w' : World} (h : St B w rb bb fb dv ea dl ch c k r er) (hf : Fr (fun i => i = bb) w w') (hn : n ≤ k)
    (hb : ∃ lb lr : Int, w'.heap[bb]? = some (brCells fb rb (r + n) (r + k) er' lb lr)) : St B w' rb bb fb dv ea dl ch (c + n) (k - n) (r + n) er' := by
  obtain ⟨l1, l2, hb0⟩ := h.br
  have hbs := (Array.getElem?_eq_some_iff.1 hb0).1
  obtain ⟨cur, hcur, hcl, hc⟩ := h.buf
  have hrs := (Array.getElem?_eq_some_iff.1 (show w.heap[rb]? = _ from h.rd)).1
  have hfs := (Array.getElem?_eq_some_iff.1 hcur).1
  refine ⟨?_, ?_, ⟨cur, (hf.block fb hfs (fun e => h.ne3 e.symm)).trans hcur, hcl, fun j hj => ?_⟩, by have := h.fit; omega, by have := h.le; omega, h.ne1, h.ne2, h.ne3, h.lo, h.data.kept (fun i hi => hf.block i (by have := h.lo; omega) (by have := h.lo; omega)), h.small, h.chs⟩
  · unfold RdAt
    rw [hf.block rb hrs h.ne1, show c + n + (k - n) = c + k by omega]
    exact h.rd
  · rw [show r + n + (k - n) = r + k by omega]
    exact hb
  · rw [show r + n + j = r + (n + j) by omega, show c + n + j = c + (n + j) by omega]
    exact hc (n + j) (by omega)

set_option maxRecDepth 100000 in
set_option maxHeartbeats 2000000 in
theorem byte_buf {B rb bb fb ch c k r : Nat} {dv : Value} {ea : Addr} {dl : List UInt8} (w : World) (hk : 0 < k) (h : St B w rb bb fb dv ea dl ch c k r .nilIface) :
    Calls Ybad.prog 15 #[.pointer (some ⟨bb, 0, none⟩)] w fun e w' => e = .returned (.tuple #[.int .u8 (dl.getD c 0).toNat, .nilIface]) ∧ St B w' rb bb fb dv ea dl ch (c + 1) (k - 1) (r + 1) .nilIface ∧ Fr (S3 rb bb fb) w w' := by
  obtain ⟨lb, lr, hbr⟩ := h.br
  obtain ⟨cur, hcur, hcl, hcc⟩ := h.buf
  have HSt := keep h
  have HBr := keep hbr
  obtain ⟨c0, c1, c2, c3, c4, c5, c6, fz⟩ := br_cell hbr
  have f2 := fz 2
  have f5 := fz 5
  have f6 := fz 6
  have hfit := h.fit
  have cb : w.cell? ⟨fb, r, none⟩ = some (.int .u8 (dl.getD c 0).toNat) := by
    have := hcc 0 hk
    simp only [Nat.add_zero] at this
    rw [cell_all hcur, List.getElem?_toArray]
    exact this
  have hne := h.ne3
  have hneq : ¬ ((r : Int) = ((r + k : Nat) : Int)) := by omega
  have hr16 : (r : Int) < 16384 := by omega
  have hx : (dl.getD c 0).toNat < 256 := UInt8.toNat_lt _
  clear h hbr hcur hcl hcc fz
  go_enter Ybad.func15, Ybad.ntmps15
  go_wp2_with fail
  go_loopg [] 0 (fun gk wr => gk = 0 ∧ wr = w.setCell ⟨bb, 6, none⟩ (.int .i64 (-1)))
  case atStart => exact ⟨rfl, rfl⟩
  case round =>
    obtain ⟨rfl, rfl⟩ := hrel
    go_wp2_with fail
    go_quiet (fail)
    go_wp2_with fail
    go_quiet (fail)
    go_wp2_with fail
    go_ret2
    refine ⟨rfl, ?_, ?_⟩
    · exact HSt.out.move (n := 1) (((((Fr.refl (fun i => i = bb) w).setCell (p := ⟨bb, 6, none⟩) (fun _ => rfl) _).drewN _).setCell (p := ⟨bb, 2, none⟩) (fun _ => rfl) _).setCell (p := ⟨bb, 5, none⟩) (fun _ => rfl) _) hk ⟨_, _, br_set5 (br_set2 (br_set6 HBr.out (-1)) (r + 1) (by omega)) _⟩
    · exact ((((Fr.refl _ w).setCell (p := ⟨bb, 6, none⟩) (fun _ => Or.inr (Or.inl rfl)) _).drewN _).setCell (p := ⟨bb, 2, none⟩) (fun _ => Or.inr (Or.inl rfl)) _).setCell (p := ⟨bb, 5, none⟩) (fun _ => Or.inr (Or.inl rfl)) _

set_option maxRecDepth 100000 in
set_option maxHeartbeats 4000000 in
theorem byte_fill {B rb bb fb ch c r : Nat} {dv : Value} {ea : Addr} {dl : List UInt8} (w : World) (h : St B w rb bb fb dv ea dl ch c 0 r .nilIface) :
    Calls Ybad.prog 15 #[.pointer (some ⟨bb, 0, none⟩)] w fun e w' => Fr (S3 rb bb fb) w w' ∧ ((e = .returned (.tuple #[.int .u8 (dl.getD c 0).toNat, .nilIface]) ∧ ∃ k' r', St B w' rb bb fb dv ea dl ch (c + 1) k' r' .nilIface) ∨ (c = dl.length ∧ e = .returned (.tuple #[.int .u8 0, Ev ea]) ∧ ∃ k' r', St B w' rb bb fb dv ea dl ch c k' r' .nilIface)) := by
  obtain ⟨lb, lr, hbr⟩ := h.br
  obtain ⟨c0, c1, c2, c3, c4, c5, c6, fz⟩ := br_cell hbr
  have f6 := fz 6
  have HF1 := keep (show Fr (fun i => i = bb) w (w.setCell ⟨bb, 6, none⟩ (.int .i64 (-1))) from (Fr.refl (fun i => i = bb) w).setCell (p := ⟨bb, 6, none⟩) (fun _ => rfl) _)
  have HS1 := keep (show St B (w.setCell ⟨bb, 6, none⟩ (.int .i64 (-1))) rb bb fb dv ea dl ch c 0 r .nilIface from h.move (n := 0) HF1.out (Nat.le_refl _) ⟨_, _, br_set6 hbr (-1)⟩)
  clear h hbr fz
  go_enter Ybad.func15, Ybad.ntmps15
  go_wp2_with fail
  generalize w.setCell ⟨bb, 6, none⟩ (.int .i64 (-1)) = w1 at HF1 HS1 ⊢
  clear c0 c1 c2 c3 c4 c5 c6 f6
  go_loopg [] 1 (fun gk wr => (gk = 1 ∧ wr = w1) ∨ (gk = 0 ∧ Fr (S3 rb bb fb) w wr ∧ ((∃ n, 1 ≤ n ∧ St B wr rb bb fb dv ea dl ch c n 0 .nilIface) ∨ (c = dl.length ∧ St B wr rb bb fb dv ea dl ch c 0 0 (Ev ea)))))
  case atStart => exact Or.inl ⟨rfl, rfl⟩
  case round =>
    rcases hrel with ⟨rfl, rfl⟩ | ⟨rfl, hfr, hst⟩
    · obtain ⟨lb, lr, hbr⟩ := HS1.out.br
      obtain ⟨c0, c1, c2, c3, c4, c5, c6, fz⟩ := br_cell hbr
      have HFi := keep (fun q => fill_any (wr.drewN q) (show St B (wr.drewN q) rb bb fb dv ea dl ch c 0 r .nilIface from ⟨HS1.out.rd, HS1.out.br, HS1.out.buf, HS1.out.fit, HS1.out.le, HS1.out.ne1, HS1.out.ne2, HS1.out.ne3, HS1.out.lo, HS1.out.data, HS1.out.small, HS1.out.chs⟩))
      clear hbr fz
      go_wp2_with fail
      go_quiet (fail)
      go_wp2_with (go_at_call 22; refine (HFi.out _).mono ?_; rintro e w2 ⟨rfl, hf2, hp2⟩; have HF2 := keep hf2; have HP2 := keep hp2; clear hf2 hp2)
      go_roundg 0
      case measure => omega
      case rel => exact Or.inr ⟨rfl, (HF1.out.mono (T := S3 rb bb fb) (fun i _ e => Or.inr (Or.inl e))).next ⟨HF2.out.os, HF2.out.tape, HF2.out.output, HF2.out.size, HF2.out.block⟩ (fun _ _ e => e), HP2.out⟩
    · rcases hst with ⟨k, hk, h⟩ | ⟨hc, h⟩
      · obtain ⟨lb, lr, hbr⟩ := h.br
        obtain ⟨cur, hcur, hcl, hcc⟩ := h.buf
        have HSt := keep h
        have HBr := keep hbr
        have HF := keep hfr
        obtain ⟨c0, c1, c2, c3, c4, c5, c6, fz⟩ := br_cell hbr
        have f2 := fz 2
        have f5 := fz 5
        have hfit := h.fit
        have cb : wr.cell? ⟨fb, 0, none⟩ = some (.int .u8 (dl.getD c 0).toNat) := by
          have := hcc 0 hk
          simp only [Nat.add_zero] at this
          rw [cell_all hcur, List.getElem?_toArray]
          exact this
        have hne := h.ne3
        have hneq : ¬ ((0 : Int) = ((0 + k : Nat) : Int)) := by omega
        have hneq2 : ¬ ((0 : Int) = (k : Int)) := by omega
        have hx : (dl.getD c 0).toNat < 256 := UInt8.toNat_lt _
        clear h hbr hcur hcl hcc fz hfr
        go_wp2_with fail
        go_quiet (fail)
        go_wp2_with fail
        go_quiet (fail)
        go_wp2_with fail
        go_ret2
        refine ⟨?_, Or.inl ⟨rfl, k - 1, 0 + 1, ?_⟩⟩
        · exact ((HF.out.drewN _).setCell (p := ⟨bb, 2, none⟩) (fun _ => Or.inr (Or.inl rfl)) _).setCell (p := ⟨bb, 5, none⟩) (fun _ => Or.inr (Or.inl rfl)) _
        · exact HSt.out.move (n := 1) ((((Fr.refl (fun i => i = bb) wr).drewN _).setCell (p := ⟨bb, 2, none⟩) (fun _ => rfl) _).setCell (p := ⟨bb, 5, none⟩) (fun _ => rfl) _) hk ⟨_, _, br_set5 (br_set2 HBr.out (0 + 1) (by omega)) _⟩
      · obtain ⟨lb, lr, hbr⟩ := h.br
        have HSt := keep h
        have HBr := keep hbr
        have HF := keep hfr
        obtain ⟨c0, c1, c2, c3, c4, c5, c6, fz⟩ := br_cell hbr
        have HEr := keep (fun q => readErr_any (wr.drewN q) (show (wr.drewN q).heap[bb]? = _ from hbr))
        clear h hbr fz hfr
        go_wp2_with fail
        go_quiet (fail)
        go_wp2_with (go_at_call 21; refine (HEr.out _).mono ?_; rintro e w2 ⟨rfl, hw2⟩; rw [hw2]; clear hw2 w2)
        go_ret2
        refine ⟨?_, Or.inr ⟨hc, rfl, 0, 0, ?_⟩⟩
        · exact (HF.out.drewN _).setCell (p := ⟨bb, 4, none⟩) (fun _ => Or.inr (Or.inl rfl)) _
        · exact HSt.out.move (n := 0) (((Fr.refl (fun i => i = bb) wr).drewN _).setCell (p := ⟨bb, 4, none⟩) (fun _ => rfl) _) (Nat.le_refl _) ⟨_, _, br_set4 HBr.out _⟩

/-- ReadByte. -/
theorem byte_any {B rb bb fb ch c k r : Nat} {dv : Value} {ea : Addr} {dl : List UInt8} (w : World) (h : St B w rb bb fb dv ea dl ch c k r .nilIface) :
    Calls Ybad.prog 15 #[.pointer (some ⟨bb, 0, none⟩)] w fun e w' => Fr (S3 rb bb fb) w w' ∧ ((e = .returned (.tuple #[.int .u8 (dl.getD c 0).toNat, .nilIface]) ∧ ∃ k' r', St B w' rb bb fb dv ea dl ch (c + 1) k' r' .nilIface) ∨ (c = dl.length ∧ e = .returned (.tuple #[.int .u8 0, Ev ea]) ∧ ∃ k' r', St B w' rb bb fb dv ea dl ch c k' r' .nilIface)) := by
  rcases Nat.eq_zero_or_pos k with rfl | hk
  · exact byte_fill w h
  · refine (byte_buf w hk h).mono ?_
    rintro e w' ⟨rfl, h1, h2⟩
    exact ⟨h2, Or.inl ⟨rfl, _, _, h1⟩⟩
end Go.Proofs.YbulkgdyuDoor.C
