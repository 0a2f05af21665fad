/-
  9054B, third text: operand at the end of input, expr there, nested.
-/
import Derived.Test.YbulkgemgFmtWalkB
import Derived.OpenShut
namespace Go.Proofs.YbulkgemgFmt
open Go.RowKit Go.Extern.Stop Go.Stop Go.Extern
set_option linter.unusedSimpArgs false
set_option linter.unusedVariables false

theorem IsErr.grown {w w' : World} {B : Nat} {li co : Int} {v : Value} {M : ByteArray → Prop} {p : Nat} (h : IsErr w B li co v M) (hg : w.grownBy w' (some p)) (hp : p < B) : IsErr w' B li co v M := by
  obtain ⟨b, msg, h1, h2, h3, h4, h5, h6, h7⟩ := h
  have e := hg.block b h3 (by simp; omega)
  exact ⟨b, msg, h1, h2, Nat.lt_of_lt_of_le h3 hg.size, (World.cell?_of_block (w := w) e).trans h4, (World.cell?_of_block (w := w) e).trans h5, (World.cell?_of_block (w := w) e).trans h6, h7⟩
theorem IsErr.le {w : World} {B B' : Nat} {li co : Int} {v : Value} {M : ByteArray → Prop} (h : IsErr w B li co v M) (hB : B' ≤ B) : IsErr w B' li co v M := by
  obtain ⟨b, msg, h1, h2, h3⟩ := h
  exact ⟨b, msg, h1, Nat.le_trans hB h2, h3⟩

set_option maxHeartbeats 1000000 in
theorem operand_eof (p : Nat) (G : Value) (s : Int) (tx : ByteArray) (li co d : Int) (NF : Value) (nn : Int) (w : World) (hp : Par w p G 0 s tx li co d NF nn) :
    Calls Ybaf.prog 4 #[.pointer (some ⟨p, 0, none⟩)] w fun e w' => (∃ v, e = .returned (.tuple #[.pointer none, v]) ∧ IsErr w' w.heap.size li co v eoiMsg) ∧ w.grownBy w' none := by
  have pl := hp.lt
  have c6 : w.cell? ⟨p, 6, none⟩ = some (.int .u8 0) := by rw [hp.cell]; rfl
  have c7 : w.cell? ⟨p, 7, none⟩ = some (.int .i64 s) := by rw [hp.cell]; rfl
  have c8 : w.cell? ⟨p, 8, none⟩ = some (.string tx) := by rw [hp.cell]; rfl
  have c9 : w.cell? ⟨p, 9, none⟩ = some (.int .i32 li) := by rw [hp.cell]; rfl
  have c10 : w.cell? ⟨p, 10, none⟩ = some (.int .i32 co) := by rw [hp.cell]; rfl
  have HP := keep hp
  clear hp
  go_enter Ybaf.func4, Ybaf.ntmps4
  go_wp2_with fail
  refine (unexpected_eof p G s tx li co d NF nn _ (Par.alloc HP.out _)).mono ?_
  rintro e w1 ⟨⟨v, rfl, he⟩, gr⟩
  have HE := keep he
  clear he
  go_wp2
  go_ret2
  exact ⟨⟨v, rfl, HE.out.le (by simp)⟩, grown_trans (World.grownBy_alloc w _ none) gr⟩

set_option maxHeartbeats 1000000 in
set_option maxRecDepth 100000 in
theorem expr_eof (p : Nat) (G : Value) (mb s : Int) (tx : ByteArray) (li co d : Int) (NF : Value) (nn : Int) (w : World) (hp : Par w p G 0 s tx li co d NF nn) :
    Calls Ybaf.prog 16 #[.pointer (some ⟨p, 0, none⟩), .int .i64 mb] w fun e w' => (∃ v, e = .returned (.tuple #[.pointer none, v]) ∧ IsErr w' w.heap.size li co v eoiMsg) ∧ w.grownBy w' none := by
  have HO := keep (operand_eof p G s tx li co d NF nn w hp)
  clear hp
  go_enter Ybaf.func16, Ybaf.ntmps16
  go_wp2_with fail
  refine HO.out.mono ?_
  rintro e w1 ⟨⟨v, rfl, he⟩, gr⟩
  have HE := keep he
  obtain ⟨b, msg, rfl, _⟩ := he
  go_wp2
  go_ret2
  exact ⟨⟨_, rfl, HE.out⟩, gr⟩

set_option maxHeartbeats 1000000 in
theorem nested_deep (F : Interp) (p gb : Nat) (mb k s : Int) (tx : ByteArray) (li co d md : Int) (NF : Value) (nn : Int) (w : World) (hF : F.answers w.tape) (hd : (d == md) = true) (hp : Par w p (.pointer (some ⟨gb, 0, none⟩)) k s tx li co d NF nn) (hm : w.cell? ⟨gb, 5, none⟩ = some (.int .i64 md)) :
    Calls Ybaf.prog 8 #[.pointer (some ⟨p, 0, none⟩), .int .i64 mb] w fun e w' => (∃ v, e = .returned (.tuple #[.pointer none, v]) ∧ IsErr w' w.heap.size li co v (fun _ => True)) ∧ w.grownBy w' none := by
  have HO := keep (open_deep F p gb k s tx li co d md NF nn w hF hd hp hm)
  clear hp
  go_enter Ybaf.func8, Ybaf.ntmps8
  go_wp2_with fail
  refine HO.out.mono ?_
  rintro e w1 ⟨⟨v, rfl, he⟩, gr⟩
  have HE := keep he
  obtain ⟨b, msg, rfl, _⟩ := he
  go_wp2
  go_ret2
  exact ⟨⟨_, rfl, HE.out⟩, gr⟩

theorem wrap_back (d : Int) (h : (Lit.int .i64 d).wf = true) : wrap64 (wrap64 (d + 1) - 1) = d := by
  have := bounds_i64 h
  unfold wrap64
  omega

set_option maxHeartbeats 1000000 in
theorem nested_ok (p gb : Nat) (mb k s : Int) (tx : ByteArray) (li co d md : Int) (NF : Value) (nn : Int) (w : World) (hd : (d == md) = false) (hwd : (Lit.int .i64 d).wf = true) (hp : Par w p (.pointer (some ⟨gb, 0, none⟩)) k s tx li co d NF nn) (hm : w.cell? ⟨gb, 5, none⟩ = some (.int .i64 md)) :
    Calls Ybaf.prog 8 #[.pointer (some ⟨p, 0, none⟩), .int .i64 mb] w fun e w' => (∃ v, e = .returned (.tuple #[.pointer none, v]) ∧ IsErr w' w.heap.size 0 1 v eoiMsg) ∧ w.grownBy w' (some p) ∧ Par w' p (.pointer (some ⟨gb, 0, none⟩)) 0 0 ⟨#[]⟩ 0 1 d NF nn := by
  have HO := keep (open_ok p gb k s tx li co d md NF nn w hd hp hm)
  have pl := hp.lt
  clear hp
  go_enter Ybaf.func8, Ybaf.ntmps8
  go_wp2_with fail
  refine HO.out.mono ?_
  rintro e w1 ⟨rfl, gr, hp1⟩
  have HP1 := keep hp1
  clear hp1
  go_wp2_with fail
  refine (expr_eof p _ mb 0 _ 0 1 _ NF nn w1 HP1.out).mono ?_
  rintro e w2 ⟨⟨v, rfl, he⟩, gr2⟩
  have HP2 := keep (Par.grown HP1.out gr2 (by simp))
  have c11 : w2.cell? ⟨p, 11, none⟩ = some (.int .i64 (wrap64 (d + 1))) := by rw [HP2.out.cell]; rfl
  have hf := HP2.out.free 11
  have HE := keep he
  obtain ⟨b, msg, rfl, _⟩ := he
  go_wp2
  go_ret2
  refine ⟨⟨_, rfl, ?_⟩, ?_, ?_⟩
  · exact (HE.out.grown (grown_setCell (World.grownBy.refl w2 (some p)) (Or.inr rfl) _) (Nat.lt_of_lt_of_le pl gr.size)).le gr.size
  · exact grown_setCell (grown_trans gr (grown_none gr2 _)) (Or.inr rfl) _
  · have := HP2.out.setDepth (wrap64 (wrap64 (d + 1) - 1))
    rw [wrap_back d hwd] at this ⊢
    exact this

end Go.Proofs.YbulkgemgFmt
