/-
  9029C, eleventh text: slices.Grow (18) at bytes: the shelf's contract laid in plain words (by the kit's lay-plain), and in this proof's own form.
-/
import Derived.Test.YbulkgdyuDoorWalkX
import Derived.Shelf.Spec.SlicesGrow
namespace Go.Proofs
open Go.Shelf
def Ybad.growB_ren : Go.Shelf.Ren := ⟨fun | 4 => 18 | n => n, fun | 22 => 22 | 25 => 5 | 3 => 3 | 4 => 4 | 9 => 9 | 20 => 20 | 0 => 0 | n => n, fun | n => n⟩
theorem Ybad.growB : Go.Proofs.Lays8.n4 Ybad.prog Ybad.growB_ren := {
  mixed := by kernel_rfl
  f4 := ⟨Ybad.f18.name, by decide, Ybad.func18.trans (congrArg some (by kernel_rfl))⟩
  t0 := Ybad.underlying0
  a0 := Ybad.isAgg0
  z0 := Ybad.sizeOf0
  v0 := Ybad.zeroValue0
  t3 := Ybad.underlying3
  a3 := Ybad.isAgg3
  z3 := Ybad.sizeOf3
  v3 := Ybad.zeroValue3
  t4 := Ybad.underlying4
  a4 := Ybad.isAgg4
  z4 := Ybad.sizeOf4
  v4 := Ybad.zeroValue4
  t9 := Ybad.underlying9
  a9 := Ybad.isAgg9
  z9 := Ybad.sizeOf9
  v9 := Ybad.zeroValue9
  t20 := Ybad.underlying20
  a20 := Ybad.isAgg20
  z20 := Ybad.sizeOf20
  v20 := Ybad.zeroValue20
  t22 := Ybad.underlying22
  a22 := Ybad.isAgg22
  z22 := Ybad.sizeOf22
  v22 := Ybad.zeroValue22 }
end Go.Proofs
namespace Go.Proofs.YbulkgdyuDoor.C
open Go.RowKit Go.Lib Go.Proofs.YbulkgdyuDoor
set_option linter.unusedSimpArgs false
set_option linter.unusedVariables false

theorem zero_size (n : Nat) : (Builtin.zeroCells (Value.int .u8 0).cells n).size = n := by simp [Builtin.zeroCells, Value.cells]
/-- what Grow hands back: a slice of the same bytes with room. -/
def Room (B : Nat) (w : World) (v : Value) (l : List UInt8) (n : Nat) (x : Value) (w' : World) : Prop :=
  ∃ (g cap : Nat) (cur : List Value), x = .slice (some ⟨g, 0, none⟩) l.length cap ∧ B ≤ g ∧ w'.heap[g]? = some (.cells cur.toArray 5 (0, 0)) ∧ cur.length = cap ∧ cap ≤ maxLen ∧ l.length + n ≤ cap ∧ cur.take l.length = Lib.byteCells l ∧ Fr (fun _ => False) w w' ∧ (v.ownBlock = some g ∨ w.heap.size ≤ g)
theorem grow_any {B n : Nat} {v : Value} {l : List UInt8} (w : World) (h : w.ownsRow B 5 1 v l.length (Lib.byteCells l)) (hB : B ≤ w.heap.size) (hn : 0 < n) (hl : l.length + n ≤ 100000000) :
    Calls Ybad.prog 18 #[v, .int .i64 n] w fun e w' => ∃ x, e = .returned x ∧ Room B w v l n x w' := by
  obtain ⟨i, hi, hz, h1, h2⟩ := i5
  have fresh : ∀ (c : Nat) (cs : List Value), cs.length = c → l.length ≤ c → cs.take l.length = Lib.byteCells l → c < l.length + n →
      Room B w v l n (.slice (some ⟨w.heap.size, 0, none⟩) l.length (grownCap w (l.length + n) c 5)) (w.drew.alloc (.cells (cs.toArray ++ Builtin.zeroCells (Value.int .u8 0).cells (l.length + n - c) ++ Builtin.zeroCells (Value.int .u8 0).cells (grownCap w (l.length + n) c 5 - (l.length + n))) 5)) := by
    intro c cs hc hlc ht hlt
    have hge := grownCap_ge w (l.length + n) c 5
    have hmx : grownCap w (l.length + n) c 5 ≤ maxLen := grownCap_le_maxLen w (l.length + n) c 5 (by unfold maxLen; omega)
    refine ⟨w.heap.size, _, (cs.toArray ++ Builtin.zeroCells (Value.int .u8 0).cells (l.length + n - c) ++ Builtin.zeroCells (Value.int .u8 0).cells (grownCap w (l.length + n) c 5 - (l.length + n))).toList, rfl, hB, ?_, ?_, hmx, hge, ?_, ?_, Or.inr (Nat.le_refl _)⟩
    · exact heap_alloc_new w.drew _
    · rw [Array.length_toList, Array.size_append, Array.size_append, zero_size, zero_size]
      simp only [List.size_toArray]
      omega
    · rw [Array.toList_append, Array.toList_append, List.append_assoc, List.take_append_of_le_length (by simp; omega)]
      exact ht
    · exact ((Fr.refl _ w).drewN 1).alloc _
  rcases h.2 with ⟨rfl, h0⟩ | ⟨g, cap, cur, rfl, r1, r2, r3, r4, r5, r6⟩
  · have e0 : l = [] := List.eq_nil_of_length_eq_zero h0
    subst e0
    refine (Any8.slices_Grow_grow Ybad.growB i (.int .u8 0) hi hz (by rw [h1]; decide) none 0 0 n [] w (Nat.le_refl _) (by omega) (by rw [h2]; simp at hl; omega) (by simp at hl; omega) (by simp) (fun _ => rfl) (fun a e => by cases e)).mono ?_
    rintro e w' ⟨rfl, rfl⟩
    exact ⟨_, rfl, fresh 0 [] rfl (Nat.le_refl _) rfl (by simpa using hn)⟩
  · have hcs : cur.toList.length = cap := by rw [Array.length_toList]; omega
    by_cases hroom : l.length + n ≤ cap
    · refine (Any8.slices_Grow_room Ybad.growB (some ⟨g, 0, none⟩) l.length cap n w r3 (by unfold maxLen at r4; omega) (by omega) hroom).mono ?_
      rintro e w' ⟨rfl, rfl⟩
      exact ⟨_, rfl, g, cap, cur.toList, rfl, r1, r2, hcs, r4, hroom, by rw [← r6, Nat.mul_one], Fr.refl _ _, Or.inl rfl⟩
    · refine (Any8.slices_Grow_grow Ybad.growB i (.int .u8 0) hi hz (by rw [h1]; decide) (some ⟨g, 0, none⟩) l.length cap n cur.toList w r3 (by omega) (by rw [h2]; omega) (by omega) (by rw [h1]; omega) (fun e => by cases e) (fun a e j v hv => ?_)).mono ?_
      · cases e
        exact World.news_of_block r2 j v hv
      · rintro e w' ⟨rfl, rfl⟩
        exact ⟨_, rfl, fresh cap cur.toList hcs r3 (by rw [← r6, Nat.mul_one]) (by omega)⟩
end Go.Proofs.YbulkgdyuDoor.C
