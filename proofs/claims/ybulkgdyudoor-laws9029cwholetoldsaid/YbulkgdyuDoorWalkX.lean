/-
  9029C, tenth text: unexpected (20), errors.New (11).
-/
import Derived.Test.YbulkgdyuDoorWalkW
namespace Go.Proofs.YbulkgdyuDoor.C
open Go.RowKit Go.Lib Go.Proofs.YbulkgdyuDoor
set_option linter.unusedSimpArgs false
set_option linter.unusedVariables false
attribute [local go_sem] ne_ev ne_nils eq_ev eq_nils

set_option maxRecDepth 100000 in
set_option maxHeartbeats 1000000 in
theorem unexp_same {x un : Addr} (w : World) (c0 : w.cell? ⟨0, 0, none⟩ = some (Ev x)) (c1 : w.cell? ⟨1, 0, none⟩ = some (Ev un)) : Calls Ybad.prog 20 #[Ev x] w fun e w' => e = .returned (Ev un) ∧ w' = w := by
  have q := eq_same w x
  go_enter Ybad.func20, Ybad.ntmps20
  go_wp2_with fail
  go_ret
  exact ⟨rfl, rfl⟩
set_option maxRecDepth 100000 in
set_option maxHeartbeats 1000000 in
theorem unexp_other {x eo : Addr} (w : World) (c0 : w.cell? ⟨0, 0, none⟩ = some (Ev eo)) (q : (binOp .eql 38 (Ev x) (Ev eo)).run Ybad.prog w = .ok (.bool false) w) : Calls Ybad.prog 20 #[Ev x] w fun e w' => e = .returned (Ev x) ∧ w' = w := by
  go_enter Ybad.func20, Ybad.ntmps20
  go_wp2_with fail
  go_ret
  exact ⟨rfl, rfl⟩
/-- the error that readRaw hands out. -/
def outErr (ea eo un : Addr) : Value := if ea = eo then Ev un else Ev ea
theorem unexp_any {B : Nat} {ea eo un : Addr} {er : Value} (w : World) (hge : GE B w ea eo un) (hne : un ≠ eo) (hub : ∃ ca ta, w.heap[un.block]? = some (.cells ca ta (0, 0))) (her : er = Ev ea ∨ (ea = eo ∧ er = Ev un)) :
    Calls Ybad.prog 20 #[er] w fun e w' => e = .returned (outErr ea eo un) ∧ w' = w := by
  unfold outErr
  rcases her with rfl | ⟨rfl, rfl⟩
  · by_cases h : ea = eo
    · subst h
      rw [if_pos rfl]
      exact unexp_same w hge.c0 hge.c1
    · rw [if_neg h]
      exact unexp_other w hge.c0 (eq_other w h hge.a hge.o)
  · rw [if_pos rfl]
    exact unexp_other w hge.c0 (eq_other w hne hub hge.o)

set_option maxRecDepth 100000 in
set_option maxHeartbeats 1000000 in
theorem new_any (s : ByteArray) (w : World) : Calls Ybad.prog 11 #[.string s] w fun e w' => e = .returned (Ev ⟨w.heap.size, 0, none⟩) ∧ w' = w.alloc (.cells #[.string s] 55) := by
  go_enter Ybad.func11, Ybad.ntmps11
  go_wp2_with fail
  go_ret
  exact ⟨rfl, rfl⟩
end Go.Proofs.YbulkgdyuDoor.C
