/-
  9054C, second text: the small callees: the visit's answer, errors.New, slices.Equal.
-/
import Derived.Test.YbulkgemgDoorRows
import Derived.Test.YbulkgemgDoorPlain
import Derived.WalkKit
import Derived.BigQuiet
import Derived.Deep.QuietTactic
import Derived.Deep.RegionWith
import Derived.Deep.RegionHeld3
import Derived.Laws.AppendOwn
import Derived.OwnWalk
import Derived.Deep.LoopGhost
namespace Go.Proofs.YbulkgemgDoor
open Go.RowKit
set_option linter.unusedSimpArgs false
set_option linter.unusedVariables false

theorem keep {p : Prop} (h : p) : Hid p := h

/-- what the walk is told of the answers' slice. -/
def ActsAt (w : World) (top : Nat) (av : Value) (A : Nat → Nat) : Prop :=
  ∃ (a : Option Addr) (len cap : Nat) (x : Nat → Nat), av = .slice a len cap ∧ (∀ k, A k = if k < len then x k % 5 else 0) ∧ (∀ k, x k ≤ 255) ∧ len ≤ maxLen ∧
    (0 < len → ∃ b off, a = some ⟨b, off, none⟩ ∧ b < top ∧ ∀ i, i < len → w.cell? ⟨b, off + i, none⟩ = some (.int .u8 (x i)))

theorem ActsAt.below {w w' : World} {top : Nat} {av : Value} {A : Nat → Nat} (h : ActsAt w top av A) (hb : ∀ k, k < top → w'.heap[k]? = w.heap[k]?) : ActsAt w' top av A := by
  obtain ⟨a, len, cap, x, h1, h2, h3, h4, h5⟩ := h
  refine ⟨a, len, cap, x, h1, h2, h3, h4, fun hl => ?_⟩
  obtain ⟨b, off, e, hbt, hc⟩ := h5 hl
  exact ⟨b, off, e, hbt, fun i hi => (World.cell?_of_block (hb b hbt)).trans (hc i hi)⟩

theorem act_in (b off len cap : Nat) (y : Nat) (k : Nat) (w : World) (hk : k < len) (hl : len ≤ maxLen) (hy : y ≤ 255) (hc : w.cell? ⟨b, off + k, none⟩ = some (.int .u8 y)) :
    Calls Ybad.prog 6 #[.slice (some ⟨b, off, none⟩) len cap, .int .i64 k] w fun e w' => e = .returned (.int .u8 (y % 5 : Nat)) ∧ w' = w := by
  simp only [maxLen] at hl
  go_enter Ybad.func6, Ybad.ntmps6
  go_wp2
  go_ret
  exact ⟨by simp, rfl⟩
theorem act_out (a : Option Addr) (len cap k : Nat) (w : World) (hk : ¬ k < len) (hl : k ≤ maxLen) :
    Calls Ybad.prog 6 #[.slice a len cap, .int .i64 k] w fun e w' => e = .returned (.int .u8 0) ∧ w' = w := by
  have hk' : ¬ ((k : Int) < (len : Int)) := by omega
  simp only [maxLen] at hl
  go_enter Ybad.func6, Ybad.ntmps6
  go_wp2
  go_ret
  exact ⟨rfl, rfl⟩
theorem act_any {w : World} {top : Nat} {av : Value} {A : Nat → Nat} (h : ActsAt w top av A) (k : Nat) (hk : k ≤ maxLen) :
    Calls Ybad.prog 6 #[av, .int .i64 k] w fun e w' => e = .returned (.int .u8 (A k : Nat)) ∧ w' = w := by
  obtain ⟨a, len, cap, x, rfl, h2, h3, h4, h5⟩ := h
  by_cases hl : k < len
  · obtain ⟨b, off, rfl, _, hc⟩ := h5 (by omega)
    rw [h2 k, if_pos hl]
    exact act_in b off len cap (x k) k w hl h4 (h3 k) (hc k hl)
  · rw [h2 k, if_neg hl]
    exact act_out a len cap k w hl hk

theorem new_any (t : ByteArray) (w : World) : Calls Ybad.prog 4 #[.string t] w fun e w' => e = .returned (.iface 46 (.pointer (some ⟨w.heap.size, 0, none⟩))) ∧ w' = w.alloc (.cells #[.string t] 48) := by
  go_enter Ybad.func4, Ybad.ntmps4
  go_wp2
  go_ret
  exact ⟨rfl, rfl⟩

set_option maxHeartbeats 1000000 in
theorem equal_same (a1 a2 : Option Addr) (n c1 c2 : Nat) (z : Nat → Int) (w : World) (hn : n ≤ maxLen)
    (h1 : 0 < n → ∃ b, a1 = some ⟨b, 0, none⟩ ∧ ∀ i, i < n → w.cell? ⟨b, i, none⟩ = some (.int .i64 (z i)))
    (h2 : 0 < n → ∃ b, a2 = some ⟨b, 0, none⟩ ∧ ∀ i, i < n → w.cell? ⟨b, i, none⟩ = some (.int .i64 (z i))) :
    Calls Ybad.prog 9 #[.slice a1 n c1, .slice a2 n c2] w fun e w' => e = .returned (.bool true) ∧ ∃ m, w' = w.drewN m := by
  simp only [maxLen] at hn
  have H1 := keep h1
  have H2 := keep h2
  clear h1 h2
  go_enter Ybad.func9, Ybad.ntmps9
  go_wp2
  go_loopw [13] (fun i wr => (∃ j : Nat, i = .int .i64 j ∧ j ≤ n) ∧ ∃ m, wr = w.drewN m) (fun i _ => n - (intOf i).toNat)
  case atStart => exact ⟨⟨0, rfl, by omega⟩, 0, rfl⟩
  case round =>
    obtain ⟨⟨j, rfl, hj⟩, m, rfl⟩ := hrel
    by_cases hjn : j < n
    · obtain ⟨b1, rfl, hc1⟩ := H1.out (by omega)
      obtain ⟨b2, rfl, hc2⟩ := H2.out (by omega)
      have e1 := hc1 j hjn
      have e2 := hc2 j hjn
      clear hc1 hc2
      go_wp2
      go_quiet (fail)
      go_wp2
      go_roundw
      case measure => simp [intOf]; omega
      case rel => exact ⟨⟨j + 1, by go_num, by omega⟩, _, rfl⟩
    · have hjn' : ¬ ((j : Int) < (n : Int)) := by omega
      go_wp2
      go_ret
      exact ⟨rfl, _, rfl⟩
end Go.Proofs.YbulkgemgDoor
