/-
  9029C: bufio.NewReaderSize (17), newInput (12).
-/
import Derived.Test.YbulkgdyuDoorWalkN
namespace Go.Proofs.YbulkgdyuDoor.C
open Go.RowKit Go.Lib Go.Proofs.YbulkgdyuDoor
set_option linter.unusedSimpArgs false
set_option linter.unusedVariables false

theorem info5 : (Ybad.prog.info? 5).map (fun i => (i.zero, i.size, i.bytes)) = some (some (.int .u8 0), 1, 1) := by kernel_rfl
theorem ta43 (a : Addr) (w : World) : (Instr.typeAssert (.iface 40 (.pointer (some a))) 57 43 true).run Ybad.prog w = .ok (.tuple #[.pointer none, .bool false]) w := by kernel_rfl
attribute [local go_sem] ta43
theorem make16 (n : Nat) (hn : n ≤ 16384) : ∃ A : List Value, A.length = n ∧ ∀ w : World, (Instr.makeSlice 22 (.int .i64 (n : Int)) (.int .i64 (n : Int))).run Ybad.prog w = .ok (.slice (some ⟨w.heap.size, 0, none⟩) n n) (w.alloc (.cells A.toArray 5)) :=
  ⟨(madeCells #[.int .u8 0] n).toList, by rw [Array.length_toList, size_madeCells], fun w => by
    rw [Array.toArray_toList]
    exact run_make_row' (P := Ybad.prog) 22 5 (.int .u8 0) 1 Ybad.underlying22 info5 rfl .i64 .i64 n (by omega) (by omega) w⟩
set_option maxRecDepth 100000 in
set_option maxHeartbeats 1000000 in
theorem reset_any {b fb rb : Nat} (w : World) (h : w.heap[b]? = some (.cells #[.slice none 0 0, .nilIface, .int .i64 0, .int .i64 0, .nilIface, .int .i64 0, .int .i64 0] 64 (0, 0))) :
    Calls Ybad.prog 26 #[.pointer (some ⟨b, 0, none⟩), .slice (some ⟨fb, 0, none⟩) 16384 16384, .iface 40 (.pointer (some ⟨rb, 0, none⟩))] w fun e w' => e = .returned (.tuple #[]) ∧ w'.heap[b]? = some (brCells fb rb 0 0 .nilIface (-1) (-1)) ∧ Fr (fun i => i = b) w w' := by
  have c0 : w.cell? ⟨b, 0, none⟩ = some (.slice none 0 0) := by simp [World.cell?, h]
  have c1 : w.cell? ⟨b, 1, none⟩ = some .nilIface := by simp [World.cell?, h]
  have c2 : w.cell? ⟨b, 2, none⟩ = some (.int .i64 0) := by simp [World.cell?, h]
  have c3 : w.cell? ⟨b, 3, none⟩ = some (.int .i64 0) := by simp [World.cell?, h]
  have c4 : w.cell? ⟨b, 4, none⟩ = some .nilIface := by simp [World.cell?, h]
  have c5 : w.cell? ⟨b, 5, none⟩ = some (.int .i64 0) := by simp [World.cell?, h]
  have c6 : w.cell? ⟨b, 6, none⟩ = some (.int .i64 0) := by simp [World.cell?, h]
  have fz : ∀ o, w.frozen? ⟨b, o, none⟩ = false := fun o => by simp [World.frozen?, h]
  have f0 := fz 0
  have f1 := fz 1
  have f2 := fz 2
  have f3 := fz 3
  have f4 := fz 4
  have f5 := fz 5
  have f6 := fz 6
  have H := keep h
  clear h fz
  go_enter Ybad.func26, Ybad.ntmps26
  go_wp2_with fail
  go_end0
  refine ⟨rfl, ?_, ?_⟩
  · have h := H.out
    unfold brCells
    simp [World.setCell, Array.getElem?_modify, h]
  · exact (((((((Fr.refl (fun i => i = b) w).setCell (p := ⟨b, 0, none⟩) (fun _ => rfl) _).setCell (p := ⟨b, 1, none⟩) (fun _ => rfl) _).setCell (p := ⟨b, 2, none⟩) (fun _ => rfl) _).setCell (p := ⟨b, 3, none⟩) (fun _ => rfl) _).setCell (p := ⟨b, 4, none⟩) (fun _ => rfl) _).setCell (p := ⟨b, 5, none⟩) (fun _ => rfl) _).setCell (p := ⟨b, 6, none⟩) (fun _ => rfl) _
set_option maxRecDepth 100000 in
set_option maxHeartbeats 1000000 in
theorem newReader_any (rb : Nat) (w : World) :
    Calls Ybad.prog 17 #[.iface 40 (.pointer (some ⟨rb, 0, none⟩)), .int .i64 16384] w fun e w' => e = .returned (.pointer (some ⟨w.heap.size, 0, none⟩)) ∧ w'.heap[w.heap.size]? = some (brCells (w.heap.size + 1) rb 0 0 .nilIface (-1) (-1)) ∧ (∃ cur : List Value, w'.heap[w.heap.size + 1]? = some (.cells cur.toArray 5 (0, 0)) ∧ cur.length = 16384) ∧ Fr (fun _ => False) w w' := by
  obtain ⟨A, hA, hmk0⟩ := make16 16384 (Nat.le_refl _)
  have HA := keep hA
  clear hA
  have e0 : ((w.alloc (.cells #[.slice none 0 0, .nilIface, .int .i64 0, .int .i64 0, .nilIface, .int .i64 0, .int .i64 0] 64)).alloc (.cells A.toArray 5)).heap[w.heap.size]? = some (.cells #[.slice none 0 0, .nilIface, .int .i64 0, .int .i64 0, .nilIface, .int .i64 0, .int .i64 0] 64 (0, 0)) := (Below.heap_alloc _ _ w.heap.size (by simp)).trans (heap_alloc_new w _)
  have e1 : ((w.alloc (.cells #[.slice none 0 0, .nilIface, .int .i64 0, .int .i64 0, .nilIface, .int .i64 0, .int .i64 0] 64)).alloc (.cells A.toArray 5)).heap[w.heap.size + 1]? = some (.cells A.toArray 5 (0, 0)) := by
    have h := heap_alloc_new (w.alloc (.cells #[.slice none 0 0, .nilIface, .int .i64 0, .int .i64 0, .nilIface, .int .i64 0, .int .i64 0] 64)) (.cells A.toArray 5)
    rwa [show (w.alloc (.cells #[.slice none 0 0, .nilIface, .int .i64 0, .int .i64 0, .nilIface, .int .i64 0, .int .i64 0] 64)).heap.size = w.heap.size + 1 by simp] at h
  have HF := keep (((Fr.refl (fun _ => False) w).alloc (.cells #[.slice none 0 0, .nilIface, .int .i64 0, .int .i64 0, .nilIface, .int .i64 0, .int .i64 0] 64)).alloc (.cells A.toArray 5))
  have HR := keep (reset_any (fb := w.heap.size + 1) (rb := rb) _ e0)
  have H1 := keep e1
  clear e0 e1
  have hmk : ∀ w : World, (Instr.makeSlice 22 (.int .i64 16384) (.int .i64 16384)).run Ybad.prog w = .ok (.slice (some ⟨w.heap.size, 0, none⟩) 16384 16384) (w.alloc (.cells A.toArray 5)) := hmk0
  have hmx : max (16384 : Int) 16 = 16384 := by decide
  go_enter Ybad.func17, Ybad.ntmps17
  go_wp2_with fail
  refine HR.out.mono ?_
  rintro e w3 ⟨rfl, h1, h2⟩
  have K1 := keep h1
  have K2 := keep h2
  clear h1 h2
  go_wp2_with fail
  go_ret
  refine ⟨rfl, K1.out, ⟨A, ?_, HA.out⟩, HF.out.next K2.out (fun i hi e => by omega)⟩
  exact (K2.out.block (w.heap.size + 1) (Array.getElem?_eq_some_iff.1 H1.out).1 (by omega)).trans H1.out
end Go.Proofs.YbulkgdyuDoor.C
