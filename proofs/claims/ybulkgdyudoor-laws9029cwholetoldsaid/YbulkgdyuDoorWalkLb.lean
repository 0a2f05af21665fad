/-
  9029C: newInput (12).
-/
import Derived.Test.YbulkgdyuDoorWalkL
namespace Go.Proofs.YbulkgdyuDoor.C
open Go.RowKit Go.Lib Go.Proofs.YbulkgdyuDoor
set_option linter.unusedSimpArgs false
set_option linter.unusedVariables false
set_option maxRecDepth 100000 in
set_option maxHeartbeats 1000000 in
theorem newInput_any (rb : Nat) (w : World) :
    Calls Ybad.prog 12 #[.iface 40 (.pointer (some ⟨rb, 0, none⟩))] w fun e w' => e = .returned (.agg #[.pointer (some ⟨w.heap.size + 1, 0, none⟩), .slice none 0 0]) ∧ w'.heap[w.heap.size + 1]? = some (brCells (w.heap.size + 2) rb 0 0 .nilIface (-1) (-1)) ∧ (∃ cur : List Value, w'.heap[w.heap.size + 2]? = some (.cells cur.toArray 5 (0, 0)) ∧ cur.length = 16384) ∧ Fr (fun _ => False) w w' := by
  have hs : (w.alloc (.cells #[.pointer none, .slice none 0 0] 45)).heap.size = w.heap.size + 1 := by simp
  have h17 := newReader_any rb (w.alloc (.cells #[.pointer none, .slice none 0 0] 45))
  rw [hs] at h17
  have HN := keep h17
  have H0 := keep (show (w.alloc (.cells #[.pointer none, .slice none 0 0] 45)).heap[w.heap.size]? = some (.cells #[.pointer none, .slice none 0 0] 45 (0, 0)) from heap_alloc_new w _)
  have HF := keep ((Fr.refl (fun _ => False) w).alloc (.cells #[.pointer none, .slice none 0 0] 45))
  clear h17 hs
  go_enter Ybad.func12, Ybad.ntmps12
  go_wp2_with fail
  refine HN.out.mono ?_
  rintro e w2 ⟨rfl, h1, h2, h3⟩
  have hb := (h3.block w.heap.size (by simp) (fun h => h)).trans H0.out
  have c0 : w2.cell? ⟨w.heap.size, 0, none⟩ = some (.pointer none) := by simp [World.cell?, hb]
  have c1 : w2.cell? ⟨w.heap.size, 1, none⟩ = some (.slice none 0 0) := by simp [World.cell?, hb]
  have f0 : w2.frozen? ⟨w.heap.size, 0, none⟩ = false := by simp [World.frozen?, hb]
  have f1 : w2.frozen? ⟨w.heap.size, 1, none⟩ = false := by simp [World.frozen?, hb]
  have K := keep (And.intro h1 (And.intro h2 h3))
  clear h1 h2 h3 hb
  go_wp2_with fail
  have hb := (K.out.2.2.block w.heap.size (by simp) (fun h => h)).trans H0.out
  have hs2 : w.heap.size < w2.heap.size := by have := K.out.2.2.size; simp at this; omega
  have g0 : (w2.setCell ⟨w.heap.size, 0, none⟩ (.pointer (some ⟨w.heap.size + 1, 0, none⟩))).cell? ⟨w.heap.size, 0, none⟩ = some (.pointer (some ⟨w.heap.size + 1, 0, none⟩)) := by simp [World.cell?, World.setCell, Array.getElem?_modify, hb]
  have g1 : ((w2.setCell ⟨w.heap.size, 0, none⟩ (.pointer (some ⟨w.heap.size + 1, 0, none⟩))).setCell ⟨w.heap.size, 1, none⟩ (.slice none 0 0)).cell? ⟨w.heap.size, 1, none⟩ = some (.slice none 0 0) := by simp [World.cell?, World.setCell, Array.getElem?_modify, hb]
  have hfr : Fr (fun i => i = w.heap.size) w2 ((w2.setCell ⟨w.heap.size, 0, none⟩ (.pointer (some ⟨w.heap.size + 1, 0, none⟩))).setCell ⟨w.heap.size, 1, none⟩ (.slice none 0 0)) := ((Fr.refl (fun i => i = w.heap.size) w2).setCell (p := ⟨w.heap.size, 0, none⟩) (fun _ => rfl) _).setCell (p := ⟨w.heap.size, 1, none⟩) (fun _ => rfl) _
  refine bodyPost_ret (v := .agg #[.pointer (some ⟨w.heap.size + 1, 0, none⟩), .slice none 0 0]) (by simp [results, Ybad.results12, go_sem, g0, g1]) rfl ⟨rfl, ?_, ?_, ?_⟩
  · exact (hfr.block _ (Array.getElem?_eq_some_iff.1 K.out.1).1 (by omega)).trans K.out.1
  · obtain ⟨cur, h1, h2⟩ := K.out.2.1
    exact ⟨cur, (hfr.block _ (Array.getElem?_eq_some_iff.1 h1).1 (by omega)).trans h1, h2⟩
  · exact (HF.out.next K.out.2.2 (fun i hi e => e)).next hfr (fun i hi e => by omega)
end Go.Proofs.YbulkgdyuDoor.C
