/-
  9051B, third text: the walks of syntaxError (over fmt.Sprintf's stop), identifier.
-/
import Derived.Test.YbulkgekqFmtWalkB
import Derived.WalkSpells
import Derived.Stop.CallBack
import Derived.Stop.IfaceNil
namespace Go.Proofs.YbulkgekqFmt
open Go.RowKit Go.Extern.Stop Go.Stop Go.Extern
set_option linter.unusedSimpArgs false
set_option linter.unusedVariables false

theorem call14 (args : Array Value) (w : World) : (callFunc 14 args).run Ybaf.prog w = ((FmtStop.sprintf #[9, 67] #[9] args).run Ybaf.prog w).andThen fun v w' => .ok (.value v) w' :=
  run_callFunc_extern Ybaf.func14 (by kernel_rfl) (by kernel_rfl) (by kernel_rfl) (by kernel_rfl) args w
theorem guardF (name : String) (w : World) : (FmtStop.guard name).run Ybaf.prog w = .ok () w := by kernel_rfl
theorem fmt0 : FmtStop.printed? ⟨#[115, 121, 110, 116, 97, 120, 32, 101, 114, 114, 111, 114, 32, 97, 116, 32, 111, 114, 32, 110, 101, 97, 114, 32, 34, 37, 115, 34]⟩ 1 = some [(0, 115, false)] := by kernel_rfl
theorem fmt0r (w : World) : (FmtDoors.printed ⟨#[115, 121, 110, 116, 97, 120, 32, 101, 114, 114, 111, 114, 32, 97, 116, 32, 111, 114, 32, 110, 101, 97, 114, 32, 34, 37, 115, 34]⟩ 1).run Ybaf.prog w = .ok [(0, 115, false)] w := by kernel_rfl
def shape9 : List UInt8 := [12, 6, 0, 0, 0, 0, 0, 0, 0, 115, 116, 114, 105, 110, 103]
theorem op9_115 (name : String) (x : ByteArray) (w : World) : (FmtStop.operand name false 115 false (.iface 9 (.string x))).run Ybaf.prog w = .ok (shape9, FmtStop.pack x.data.toList) w := by kernel_rfl
attribute [local go_sem] call14 guardF fmt0 fmt0r op9_115

set_option maxHeartbeats 400000 in
theorem syntax_any (F : Interp) (t : Tok) (w : World) (hF : F.answers w.tape) :
    Calls Ybaf.prog 11 #[.agg #[.string t.kind, .string t.text, .string t.value, .int .i64 t.start, .int .i64 t.fin]] w fun e w' => (∃ (b : Nat) (msg : ByteArray), e = .returned (.iface 37 (.pointer (some ⟨b, 0, none⟩))) ∧ w.heap.size ≤ b ∧ b < w'.heap.size ∧ w'.cell? ⟨b, 0, none⟩ = some (.string ⟨#[52, 50, 54, 48, 49]⟩) ∧ w'.cell? ⟨b, 1, none⟩ = some (.string msg) ∧ (eofB t = true → msg = ⟨#[115, 121, 110, 116, 97, 120, 32, 101, 114, 114, 111, 114, 32, 97, 116, 32, 101, 110, 100, 32, 111, 102, 32, 105, 110, 112, 117, 116]⟩)) ∧ w.grownBy w' none := by
  cases h1 : eofB t with
  | true =>
    unfold eofB at h1
    go_enter Ybaf.func11, Ybaf.ntmps11
    go_wp2
    go_ret
    refine ⟨⟨_, _, rfl, by simp, by simp, by simp [go_sem], by simp [go_sem], fun _ => rfl⟩, ?_⟩
    repeat (with_reducible first | exact World.grownBy.refl _ _ | refine grown_alloc ?_ _ | refine grown_drew ?_)
  | false =>
    have h1' := h1
    unfold eofB at h1
    have hF' := answers_open hF
    go_enter Ybaf.func11, Ybaf.ntmps11
    go_wp2
    go_ret
    generalize FmtStop.textOf _ = msg
    refine ⟨⟨w.heap.size + 1 + 1, msg, rfl, by omega, by simp, by simp [go_sem], by simp [go_sem], fun h => by cases h⟩, ?_⟩
    repeat (with_reducible first | exact World.grownBy.refl _ _ | refine grown_alloc ?_ _ | refine grown_drew ?_)

/-- what the caller is told of an error. -/
def IsErr (w : World) (B : Nat) (t : Tok) (v : Value) : Prop :=
  ∃ (b : Nat) (msg : ByteArray), v = .iface 37 (.pointer (some ⟨b, 0, none⟩)) ∧ B ≤ b ∧ b < w.heap.size ∧ w.cell? ⟨b, 0, none⟩ = some (.string ⟨#[52, 50, 54, 48, 49]⟩) ∧ w.cell? ⟨b, 1, none⟩ = some (.string msg) ∧ (eofB t = true → msg = ⟨#[115, 121, 110, 116, 97, 120, 32, 101, 114, 114, 111, 114, 32, 97, 116, 32, 101, 110, 100, 32, 111, 102, 32, 105, 110, 112, 117, 116]⟩)

theorem IsErr.grown {w w' : World} {B : Nat} {t : Tok} {v : Value} {p : Nat} (h : IsErr w B t v) (hg : w.grownBy w' (some p)) (hp : p < B) : IsErr w' B t v := by
  obtain ⟨b, msg, h1, h2, h3, h4, h5, h6⟩ := h
  have e := hg.block b h3 (by simp; omega)
  exact ⟨b, msg, h1, h2, Nat.lt_of_lt_of_le h3 hg.size, (World.cell?_of_block (w := w) e).trans h4, (World.cell?_of_block (w := w) e).trans h5, h6⟩

set_option maxHeartbeats 1000000 in
theorem identifier_yes (ao : Option Addr) (p g n i : Nat) (T : Nat → Tok) (t : Tok) (w : World) (hn : n ≤ 1048576) (hi : i ≤ 2000000) (hao : 0 < n → ao = some ⟨g, 0, none⟩) (hg : 0 < n → g < w.heap.size) (hr : Row w g n T) (hp : Par w p (.slice ao n n) i) (ht : t = tokAt T n i) (hpg : 0 < n → g ≠ p) (hd : nameB t = true) :
    Calls Ybaf.prog 8 #[.pointer (some ⟨p, 0, none⟩)] w fun e w' => e = .returned (.tuple #[.string t.value, .nilIface]) ∧ w.grownBy w' (some p) ∧ Par w' p (.slice ao n n) (step n i) := by
  have HA := keep (advance_any ao p g n i T t w hn hi hao hg hr hp ht hpg)
  have pl := hp.lt
  clear ht hr hp
  cases h1 : identB t with
  | true =>
    unfold identB at h1
    go_enter Ybaf.func8, Ybaf.ntmps8
    go_wp2_with fail
    refine HA.out.mono ?_
    rintro e w1 ⟨rfl, gr, hp1⟩
    have HP := keep hp1
    clear hp1
    go_wp2
    go_ret2
    refine ⟨rfl, ?_, ?_⟩
    · exact grown_alloc gr _
    · exact Par.alloc HP.out _
  | false =>
    have h2 : quotedB t = true := by simpa [nameB, h1] using hd
    unfold identB at h1
    unfold quotedB at h2
    go_enter Ybaf.func8, Ybaf.ntmps8
    go_wp2_with fail
    refine HA.out.mono ?_
    rintro e w1 ⟨rfl, gr, hp1⟩
    have HP := keep hp1
    clear hp1
    go_wp2
    go_ret2
    refine ⟨rfl, ?_, ?_⟩
    · exact grown_alloc gr _
    · exact Par.alloc HP.out _

set_option maxHeartbeats 1000000 in
theorem identifier_no (F : Interp) (ao : Option Addr) (p g n i : Nat) (T : Nat → Tok) (t : Tok) (w : World) (hn : n ≤ 1048576) (hi : i ≤ 2000000) (hao : 0 < n → ao = some ⟨g, 0, none⟩) (hg : 0 < n → g < w.heap.size) (hr : Row w g n T) (hp : Par w p (.slice ao n n) i) (ht : t = tokAt T n i) (hF : F.answers w.tape) (hpg : 0 < n → g ≠ p) (hd : nameB t = false) :
    Calls Ybaf.prog 8 #[.pointer (some ⟨p, 0, none⟩)] w fun e w' => (∃ v, e = .returned (.tuple #[.string ⟨#[]⟩, v]) ∧ IsErr w' w.heap.size t v) ∧ w.grownBy w' (some p) ∧ Par w' p (.slice ao n n) (step n i) := by
  have HA := keep (advance_any ao p g n i T t w hn hi hao hg hr hp ht hpg)
  have pl := hp.lt
  clear ht hr hp
  have h1 : identB t = false := by simp [nameB] at hd; exact hd.1
  have h2 : quotedB t = false := by simp [nameB] at hd; exact hd.2
  unfold identB at h1
  unfold quotedB at h2
  clear hd
  go_enter Ybaf.func8, Ybaf.ntmps8
  go_wp2_with fail
  refine HA.out.mono ?_
  rintro e w1 ⟨rfl, gr, hp1⟩
  have HP := keep hp1
  have hF1 : F.answers w1.tape := by rw [gr.tape]; exact hF
  clear hp1
  go_wp2_with fail
  refine (syntax_any F t _ (by exact hF1)).mono ?_
  rintro e w2 ⟨⟨b, msg, rfl, g1, g2, g3, g4, g5⟩, gr2⟩
  have G := keep (And.intro g1 (And.intro g2 (And.intro g3 (And.intro g4 g5))))
  clear g1 g2 g3 g4 g5
  go_wp2
  go_ret2
  obtain ⟨g1, g2, g3, g4, g5⟩ := G.out
  refine ⟨⟨_, rfl, b, msg, rfl, ?_, g2, g3, g4, g5⟩, ?_, ?_⟩
  · have := gr.size; simp at g1; omega
  · exact grown_trans (grown_alloc gr _) (grown_none gr2 _)
  · exact (Par.alloc HP.out _).grown gr2 (by simp)

end Go.Proofs.YbulkgekqFmt
