/-
  9029C: slices.Equal (14) at bytes: two slices of the same bytes.
-/
import Derived.Test.YbulkgdyuDoorWalkA
namespace Go.Proofs.YbulkgdyuDoor.C
open Go.RowKit Go.Lib Go.Proofs.YbulkgdyuDoor
set_option linter.unusedSimpArgs false
set_option linter.unusedVariables false

set_option maxRecDepth 100000 in
set_option maxHeartbeats 1000000 in
theorem equal_cells (a1 a2 : Option Addr) (n c1 c2 : Nat) (z : Nat → Int) (w : World) (hn : n ≤ 100000000)
    (h1 : 0 < n → ∃ b o, a1 = some ⟨b, o, none⟩ ∧ ∀ i, i < n → w.cell? ⟨b, o + i, none⟩ = some (.int .u8 (z i)))
    (h2 : 0 < n → ∃ b o, a2 = some ⟨b, o, none⟩ ∧ ∀ i, i < n → w.cell? ⟨b, o + i, none⟩ = some (.int .u8 (z i))) :
    Calls Ybad.prog 14 #[.slice a1 n c1, .slice a2 n c2] w fun e w' => e = .returned (.bool true) ∧ ∃ m, w' = w.drewN m := by
  have H1 := keep h1
  have H2 := keep h2
  clear h1 h2
  go_enter Ybad.func14, Ybad.ntmps14
  go_wp2_with fail
  go_loopg [13] n (fun gk i wr => ∃ (j m : Nat), i = .int .i64 j ∧ j ≤ n ∧ gk = n - j ∧ wr = w.drewN m)
  case atStart => exact ⟨0, 0, rfl, Nat.zero_le _, rfl, rfl⟩
  case round =>
    obtain ⟨j, m, rfl, hj, rfl, rfl⟩ := hrel
    by_cases hjn : j < n
    · obtain ⟨b1, o1, rfl, hc1⟩ := H1.out (by omega)
      obtain ⟨b2, o2, rfl, hc2⟩ := H2.out (by omega)
      have e1 := hc1 j hjn
      have e2 := hc2 j hjn
      have e3 : (j : Int) < (n : Int) := by omega
      clear hc1 hc2
      go_wp2_with fail
      go_quiet (fail)
      go_wp2_with fail
      go_roundg (n - (j + 1))
      case measure => omega
      case rel => exact ⟨j + 1, _, by go_num, by omega, rfl, by first | rfl | exact World.drewN_drewN ..⟩
    · have e3 : ¬ ((j : Int) < (n : Int)) := by omega
      go_wp2_with fail
      go_ret
      exact ⟨rfl, _, rfl⟩
theorem row_cells {w : World} {v : Value} {l : List UInt8} (h : Row w v l) : ∃ a c, v = .slice a l.length c ∧ (0 < l.length → ∃ b o, a = some ⟨b, o, none⟩ ∧ ∀ i, i < l.length → w.cell? ⟨b, o + i, none⟩ = some (.int .u8 ((l.getD i 0).toNat : Nat))) := by
  rcases h with ⟨rfl, rfl⟩ | ⟨a, c, rfl, hc⟩
  · exact ⟨none, 0, rfl, fun h => absurd h (Nat.lt_irrefl 0)⟩
  · refine ⟨some a, c, rfl, fun h0 => ?_⟩
    have cellAt : ∀ i, i < l.length → w.cell? (a.add i) = some (.int .u8 ((l.getD i 0).toNat : Nat)) := fun i hi => hc i _ (by simp [Lib.byteCells, hi])
    obtain ⟨b, o, spot⟩ := a
    have hs : spot = none := by
      have c0 := cellAt 0 h0
      cases spot with
      | none => rfl
      | some s =>
        exfalso
        simp only [Addr.add, if_true, World.cell?, Option.isSome_some] at c0
        split at c0 <;> simp at c0
    subst hs
    refine ⟨b, o, rfl, fun i hi => ?_⟩
    have := cellAt i hi
    rwa [show (⟨b, o, none⟩ : Addr).add i = ⟨b, o + i, none⟩ by unfold Addr.add; split <;> simp_all] at this
/-- slices.Equal at two slices of the same bytes. -/
theorem equal_rows {w : World} {v1 v2 : Value} {l : List UInt8} (hl : l.length ≤ 100000000) (h1 : Row w v1 l) (h2 : Row w v2 l) : Calls Ybad.prog 14 #[v1, v2] w fun e w' => e = .returned (.bool true) ∧ ∃ m, w' = w.drewN m := by
  obtain ⟨a1, c1, rfl, k1⟩ := row_cells h1
  obtain ⟨a2, c2, rfl, k2⟩ := row_cells h2
  exact equal_cells a1 a2 l.length c1 c2 (fun i => ((l.getD i 0).toNat : Nat)) w hl k1 k2
end Go.Proofs.YbulkgdyuDoor.C
