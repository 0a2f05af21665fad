/-
  9054B, fourth text: take, node, operand at a literal or a name.
-/
import Derived.Test.YbulkgemgFmtWalkC
namespace Go.Proofs.YbulkgemgFmt
open Go.RowKit Go.Extern.Stop Go.Stop Go.Extern
set_option linter.unusedSimpArgs false
set_option linter.unusedVariables false

theorem info61 : (Ybaf.prog.info? 61).map (fun i => (i.zero, i.size, i.bytes)) = some (some (.agg #[.int .u8 0, .string ⟨#[]⟩, .int .i32 0, .int .i32 0, .slice none 0 0, .pointer none]), 6, 64) := by kernel_rfl

section
variable {w w' : World} {p : Nat} {G : Value} {k s : Int} {tx : ByteArray} {li co d : Int} {NF : Value} {nn : Int}
theorem Par.drew (h : Par w p G k s tx li co d NF nn) : Par w.drew p G k s tx li co d NF nn := h
theorem Par.setFree (h : Par w p G k s tx li co d NF nn) (NF' : Value) : Par (w.setCell ⟨p, 12, none⟩ NF') p G k s tx li co d NF' nn := by
  unfold Par at h ⊢
  rw [heap_setCell_at h]
  simp [PB]
theorem Par.setNext (h : Par w p G k s tx li co d NF nn) (nn' : Int) : Par (w.setCell ⟨p, 13, none⟩ (.int .i64 nn')) p G k s tx li co d NF nn' := by
  unfold Par at h ⊢
  rw [heap_setCell_at h]
  simp [PB]
end

theorem made_one {w w' : World} (h : w'.ownsRow w.heap.size 61 6 (.slice (some ⟨w.heap.size, 0, none⟩) 1 1) 1 (madeCells (Value.agg #[.int .u8 0, .string ⟨#[]⟩, .int .i32 0, .int .i32 0, .slice none 0 0, .pointer none]).cells (1 * 6)).toList) :
    w'.heap[w.heap.size]? = some (.cells #[.int .u8 0, .string ⟨#[]⟩, .int .i32 0, .int .i32 0, .slice none 0 0, .pointer none] 61 (0, 0)) := by
  obtain ⟨h1, h2⟩ := h
  rcases h2 with ⟨h2, _⟩ | ⟨g, cap, cur, hv, _, hh, _, _, hs, ht⟩
  · cases h2
  · simp at hv
    obtain ⟨rfl, rfl⟩ := hv
    rw [hh]
    have : cur = #[.int .u8 0, .string ⟨#[]⟩, .int .i32 0, .int .i32 0, .slice none 0 0, .pointer none] := by
      have e : cur.toList.take (1 * 6) = cur.toList := List.take_of_length_le (by simp [hs])
      rw [e] at ht
      rw [Array.ext' ht]
      simp only [madeCells, Value.cells]
      apply Array.ext'
      simp only [Array.toList_map, Array.toList_range]
      rfl
    rw [this]

set_option maxHeartbeats 1000000 in
theorem take_one (p : Nat) (G : Value) (k s : Int) (tx : ByteArray) (li co d : Int) (w : World) (hp : Par w p G k s tx li co d (.slice none 0 0) 0) :
    Calls Ybaf.prog 11 #[.pointer (some ⟨p, 12, none⟩), .int .i64 1] w fun e w' => e = .returned (.slice (some ⟨w.heap.size, 0, none⟩) 1 1) ∧ w'.heap[w.heap.size]? = some (.cells #[.int .u8 0, .string ⟨#[]⟩, .int .i32 0, .int .i32 0, .slice none 0 0, .pointer none] 61 (0, 0)) ∧ w.grownBy w' (some p) ∧
      Par w' p G k s tx li co d (.slice (some ⟨w.heap.size, 0, none⟩) 0 0) 0 := by
  obtain ⟨i0, hi, hz0, hz1, hz2⟩ := info_parts info61
  have pl := hp.lt
  have c12 : w.cell? ⟨p, 12, none⟩ = some (.slice none 0 0) := by rw [hp.cell]; rfl
  have c13 : w.cell? ⟨p, 13, none⟩ = some (.int .i64 0) := by rw [hp.cell]; rfl
  have HP := keep hp
  clear hp
  go_enter Ybaf.func11, Ybaf.ntmps11
  go_wp2_with (at_make; refine wpList_make_full _ rfl _ _ 45 rfl w.heap.size 61 i0 _ 6 Ybaf.underlying45 hi hz0 hz1 _ _ _ _ 1 rfl rfl rfl rfl ?b2 ?b3 (Nat.le_refl _) ?_)
  case b2 => rw [hz2]; omega
  case b3 => unfold maxLen; omega
  intro w0 hown0 hgrow0
  have HM := keep (made_one hown0)
  have HP0 := keep (Par.grown HP.out hgrow0 (by simp))
  have d12 : w0.cell? ⟨p, 12, none⟩ = some (.slice none 0 0) := by rw [HP0.out.cell]; rfl
  have d13 : w0.cell? ⟨p, 13, none⟩ = some (.int .i64 0) := by rw [HP0.out.cell]; rfl
  have hf := HP0.out.free
  clear hown0 c12 c13
  go_wp2
  go_ret
  refine ⟨rfl, ?_, ?_, ?_⟩
  · have e : w.heap.size ≠ p := by omega
    have HB := HM.out
    repeat (with_reducible first | exact HB | rw [Below.heap_setCell _ _ _ _ (by exact e)])
  · have HB := grown_none hgrow0 (some p)
    repeat (with_reducible first | exact HB | refine grown_setCell ?_ (by exact Or.inr rfl) _)
  · exact ((HP0.out.setFree _).setNext _).setFree _

set_option maxHeartbeats 2000000 in
set_option maxRecDepth 100000 in
theorem node_leaf (p : Nat) (G : Value) (kd k s : Int) (tx' : ByteArray) (li' co' : Int) (tx : ByteArray) (li co d : Int) (w : World) (hp : Par w p G k s tx li co d (.slice none 0 0) 0) :
    Calls Ybaf.prog 5 #[.pointer (some ⟨p, 0, none⟩), .int .u8 kd, .string tx', .agg #[.int .i32 li', .int .i32 co'], .slice none 0 0] w fun e w' => ∃ b, e = .returned (.pointer (some ⟨b, 0, none⟩)) ∧ w.heap.size ≤ b ∧
      w'.heap[b]? = some (.cells #[.int .u8 kd, .string tx', .int .i32 li', .int .i32 co', .slice none 0 0, .pointer none] 61 (0, 0)) ∧ w.grownBy w' (some p) ∧ ∃ NF, Par w' p G k s tx li co d NF 0 := by
  have pl := hp.lt
  have HP := keep hp
  clear hp
  go_enter Ybaf.func5, Ybaf.ntmps5
  go_wp2_with fail
  refine (take_one p G k s tx li co d _ (Par.alloc HP.out _)).mono ?_
  rintro e w1 ⟨rfl, hb, gr, hp1⟩
  simp only [World.size_alloc] at hb hp1 ⊢
  have HP1 := keep hp1
  have HB := keep hb
  have hbl : w.heap.size + 1 < w1.heap.size := (Array.getElem?_eq_some_iff.1 hb).1
  have e0 : w1.cell? ⟨w.heap.size, 0, none⟩ = some (.int .i32 li') := by rw [World.cell?_of_block (w := w.alloc (.cells #[.int .i32 li', .int .i32 co'] 32)) (gr.block _ (by simp) (by simp; omega))]; simp [go_sem]
  have e1 : w1.cell? ⟨w.heap.size, 1, none⟩ = some (.int .i32 co') := by rw [World.cell?_of_block (w := w.alloc (.cells #[.int .i32 li', .int .i32 co'] 32)) (gr.block _ (by simp) (by simp; omega))]; simp [go_sem]
  have b0 : w1.cell? ⟨w.heap.size + 1, 0, none⟩ = some (.int .u8 0) := by simp [World.cell?, hb]
  have b1 : w1.cell? ⟨w.heap.size + 1, 1, none⟩ = some (.string ⟨#[]⟩) := by simp [World.cell?, hb]
  have b2 : w1.cell? ⟨w.heap.size + 1, 2, none⟩ = some (.int .i32 0) := by simp [World.cell?, hb]
  have b3 : w1.cell? ⟨w.heap.size + 1, 3, none⟩ = some (.int .i32 0) := by simp [World.cell?, hb]
  have bf : ∀ o, w1.frozen? ⟨w.heap.size + 1, o, none⟩ = false := fun o => by simp [World.frozen?, hb]
  clear hb hp1
  go_wp2
  go_region
  go_wp2
  go_ret
  refine ⟨w.heap.size + 1, rfl, by omega, ?_, ?_, .slice (some ⟨w.heap.size + 1, 0, none⟩) 0 0, ?_⟩
  · rw [show ∀ x : World, x.drew.heap = x.heap from fun _ => rfl, heap_setCell_at (heap_setCell_at (heap_setCell_at (heap_setCell_at HB.out _ _) _ _) _ _) _ _]
    simp
  · have HB := grown_trans (World.grownBy_alloc w _ (some p)) gr
    repeat (with_reducible first | exact HB | refine grown_setCell ?_ (by exact Or.inl (by first | (simp; done) | (simp; omega))) _ | refine grown_drew ?_)
  · have HB := HP1.out
    repeat (with_reducible first | exact HB | refine Par.setOther ?_ (by first | (simp; done) | (simp; omega)) _ | refine Par.drew ?_)

set_option maxHeartbeats 2000000 in
set_option maxRecDepth 100000 in
theorem operand_leaf (p : Nat) (G : Value) (k s : Int) (tx : ByteArray) (li co d : Int) (w : World) (hk : k = 2 ∨ k = 1) (hp : Par w p G k s tx li co d (.slice none 0 0) 0) :
    Calls Ybaf.prog 4 #[.pointer (some ⟨p, 0, none⟩)] w fun e w' => ∃ b, e = .returned (.tuple #[.pointer (some ⟨b, 0, none⟩), .nilIface]) ∧ w.heap.size ≤ b ∧
      w'.heap[b]? = some (.cells #[.int .u8 (if k = 1 then 1 else 0), .string tx, .int .i32 li, .int .i32 co, .slice none 0 0, .pointer none] 61 (0, 0)) ∧ w.grownBy w' (some p) ∧ ∃ NF, Par w' p G 0 0 ⟨#[]⟩ 0 1 d NF 0 := by
  have pl := hp.lt
  have c6 : w.cell? ⟨p, 6, none⟩ = some (.int .u8 k) := by rw [hp.cell]; rfl
  have c7 : w.cell? ⟨p, 7, none⟩ = some (.int .i64 s) := by rw [hp.cell]; rfl
  have c8 : w.cell? ⟨p, 8, none⟩ = some (.string tx) := by rw [hp.cell]; rfl
  have c9 : w.cell? ⟨p, 9, none⟩ = some (.int .i32 li) := by rw [hp.cell]; rfl
  have c10 : w.cell? ⟨p, 10, none⟩ = some (.int .i32 co) := by rw [hp.cell]; rfl
  have HP := keep hp
  clear hp
  rcases hk with rfl | rfl
  all_goals
    go_enter Ybaf.func4, Ybaf.ntmps4
    go_wp2_with fail
    refine (node_leaf p G _ _ s tx li co tx li co d _ (Par.alloc HP.out _)).mono ?_
    rintro e w1 ⟨b, rfl, hb, hbl, gr, NF, hp1⟩
    have HP1 := keep hp1
    have HB := keep hbl
    have hlt : b < w1.heap.size := (Array.getElem?_eq_some_iff.1 hbl).1
    clear hp1 hbl
    go_wp2_with fail
    refine (advance_any p G _ s tx li co d NF 0 w1 HP1.out).mono ?_
    rintro e w2 ⟨rfl, gr2, hp2⟩
    have HP2 := keep hp2
    clear hp2
    go_wp2
    go_ret2
    simp only [World.size_alloc] at hb
    refine ⟨b, rfl, by omega, ?_, grown_trans (World.grownBy_alloc w _ (some p)) (grown_trans gr gr2), NF, HP2.out⟩
    rw [gr2.block b hlt (by simp; omega)]
    exact HB.out
end Go.Proofs.YbulkgemgFmt
