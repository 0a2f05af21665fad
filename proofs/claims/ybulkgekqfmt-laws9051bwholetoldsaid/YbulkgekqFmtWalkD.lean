/-
  9051B, fourth text: the walk of settingName.
-/
import Derived.Test.YbulkgekqFmtWalkC
namespace Go.Proofs.YbulkgekqFmt
open Go.RowKit Go.Extern.Stop Go.Stop Go.Extern
set_option linter.unusedSimpArgs false
set_option linter.unusedVariables false

theorem step_le (n i : Nat) : step n i ≤ i + 1 := by unfold step; split <;> omega

/-- what stands when a call of the parser's has been made. -/
theorem row_on {w w' : World} {g n p : Nat} {T : Nat → Tok} (hr : Row w g n T) (hg : 0 < n → g < w.heap.size) (hpg : 0 < n → g ≠ p) (gr : w.grownBy w' (some p)) : Row w' g n T := by
  by_cases h0 : 0 < n
  · exact hr.grown gr (hg h0) (by have := hpg h0; simp; omega)
  · intro j hj; omega

set_option maxHeartbeats 1000000 in
theorem setting_no1 (F : Interp) (ao : Option Addr) (p g n i : Nat) (T : Nat → Tok) (t : Tok) (w : World) (hn : n ≤ 1048576) (hi : i ≤ 2000000) (hao : 0 < n → ao = some ⟨g, 0, none⟩) (hg : 0 < n → g < w.heap.size) (hr : Row w g n T) (hp : Par w p (.slice ao n n) i) (ht : t = tokAt T n i) (hF : F.answers w.tape) (hpg : 0 < n → g ≠ p) (hd : nameB t = false) :
    Calls Ybaf.prog 5 #[.pointer (some ⟨p, 0, none⟩)] w fun e w' => (∃ v, e = .returned (.tuple #[.string ⟨#[]⟩, v]) ∧ IsErr w' w.heap.size t v) ∧ w.grownBy w' (some p) ∧ Par w' p (.slice ao n n) (step n i) := by
  have HA := keep (identifier_no F ao p g n i T t w hn hi hao hg hr hp ht hF hpg hd)
  clear ht hr hp hd
  go_enter Ybaf.func5, Ybaf.ntmps5
  go_wp2_with fail
  refine HA.out.mono ?_
  rintro e w1 ⟨⟨v, rfl, he⟩, gr, hp1⟩
  have HE := keep he
  have HP := keep hp1
  obtain ⟨b, msg, rfl, _⟩ := he
  clear hp1
  go_wp2
  go_ret2
  exact ⟨⟨_, rfl, HE.out⟩, gr, HP.out⟩

set_option maxHeartbeats 1000000 in
theorem setting_one (F : Interp) (ao : Option Addr) (p g n i : Nat) (T : Nat → Tok) (t : Tok) (w : World) (hn : n ≤ 1048576) (hi : i ≤ 2000000) (hao : 0 < n → ao = some ⟨g, 0, none⟩) (hg : 0 < n → g < w.heap.size) (hr : Row w g n T) (hp : Par w p (.slice ao n n) i) (ht : t = tokAt T n i) (hF : F.answers w.tape) (hpg : 0 < n → g ≠ p) (hi2 : i ≤ 1999990) (hd : nameB t = true) (hd2 : dotB (tokAt T n (step n i)) = false) :
    Calls Ybaf.prog 5 #[.pointer (some ⟨p, 0, none⟩)] w fun e w' => e = .returned (.tuple #[.string t.value, .nilIface]) ∧ w.grownBy w' (some p) ∧ Par w' p (.slice ao n n) (step n i) := by
  have HA := keep (identifier_yes ao p g n i T t w hn hi hao hg hr hp ht hpg hd)
  have HR := keep hr
  have HG := keep hg
  have HD := keep hd2
  have hs := step_le n i
  clear ht hr hp hd hd2 hg
  go_enter Ybaf.func5, Ybaf.ntmps5
  go_wp2_with fail
  refine HA.out.mono ?_
  rintro e w1 ⟨rfl, gr, hp1⟩
  have HP := keep hp1
  clear hp1
  go_wp2_with fail
  refine (op_no ao p g n (step n i) T _ w1 hn (by omega) hao (fun h => Nat.lt_of_lt_of_le (HG.out h) gr.size) (row_on HR.out HG.out hpg gr) HP.out rfl hpg HD.out).mono ?_
  rintro e w2 ⟨rfl, gr2, hp2⟩
  have HP2 := keep hp2
  clear hp2
  go_wp2
  go_ret2
  exact ⟨rfl, grown_trans gr (grown_none gr2 _), HP2.out⟩

set_option maxHeartbeats 1000000 in
theorem setting_no2 (F : Interp) (ao : Option Addr) (p g n i : Nat) (T : Nat → Tok) (t : Tok) (w : World) (hn : n ≤ 1048576) (hi : i ≤ 2000000) (hao : 0 < n → ao = some ⟨g, 0, none⟩) (hg : 0 < n → g < w.heap.size) (hr : Row w g n T) (hp : Par w p (.slice ao n n) i) (ht : t = tokAt T n i) (hF : F.answers w.tape) (hpg : 0 < n → g ≠ p) (hi2 : i ≤ 1999990) (hd : nameB t = true) (hd2 : dotB (tokAt T n (step n i)) = true) (t3 : Tok) (ht3 : t3 = tokAt T n (step n i + 1)) (hd3 : nameB t3 = false) :
    Calls Ybaf.prog 5 #[.pointer (some ⟨p, 0, none⟩)] w fun e w' => (∃ v, e = .returned (.tuple #[.string ⟨#[]⟩, v]) ∧ IsErr w' w.heap.size t3 v) ∧ w.grownBy w' (some p) ∧ Par w' p (.slice ao n n) (step n (step n i + 1)) := by
  have HA := keep (identifier_yes ao p g n i T t w hn hi hao hg hr hp ht hpg hd)
  have HR := keep hr
  have HG := keep hg
  have HD := keep hd2
  have H3 := keep hd3
  have HT := keep ht3
  have hs := step_le n i
  clear ht hr hp hd hd2 hg hd3 ht3
  go_enter Ybaf.func5, Ybaf.ntmps5
  go_wp2_with fail
  refine HA.out.mono ?_
  rintro e w1 ⟨rfl, gr, hp1⟩
  have HP := keep hp1
  clear hp1
  have HG1 := keep (fun h : 0 < n => Nat.lt_of_lt_of_le (HG.out h) gr.size)
  have HR1 := keep (row_on HR.out HG.out hpg gr)
  go_wp2_with fail
  refine (op_yes ao p g n (step n i) T _ w1 hn (by omega) hao HG1.out HR1.out HP.out rfl hpg HD.out).mono ?_
  rintro e w2 ⟨rfl, gr2, hp2⟩
  have HP2 := keep hp2
  clear hp2
  have HG2 := keep (fun h : 0 < n => Nat.lt_of_lt_of_le (HG1.out h) gr2.size)
  have HR2 := keep (row_on HR1.out HG1.out hpg gr2)
  have hF2 : F.answers w2.tape := by rw [gr2.tape, gr.tape]; exact hF
  go_wp2_with fail
  refine (identifier_no F ao p g n (step n i + 1) T t3 w2 hn (by omega) hao HG2.out HR2.out HP2.out HT.out hF2 hpg H3.out).mono ?_
  rintro e w3 ⟨⟨v, rfl, he⟩, gr3, hp3⟩
  have HE := keep he
  have HP3 := keep hp3
  obtain ⟨b, msg, rfl, _⟩ := he
  clear hp3
  go_wp2
  go_ret2
  refine ⟨⟨_, rfl, ?_⟩, grown_trans gr (grown_trans gr2 gr3), HP3.out⟩
  obtain ⟨b', msg', q1, q2, q3⟩ := HE.out
  exact ⟨b', msg', q1, Nat.le_trans (Nat.le_trans gr.size gr2.size) q2, q3⟩

set_option maxHeartbeats 1000000 in
theorem setting_two (F : Interp) (ao : Option Addr) (p g n i : Nat) (T : Nat → Tok) (t : Tok) (w : World) (hn : n ≤ 1048576) (hi : i ≤ 2000000) (hao : 0 < n → ao = some ⟨g, 0, none⟩) (hg : 0 < n → g < w.heap.size) (hr : Row w g n T) (hp : Par w p (.slice ao n n) i) (ht : t = tokAt T n i) (hF : F.answers w.tape) (hpg : 0 < n → g ≠ p) (hi2 : i ≤ 1999990) (hd : nameB t = true) (hd2 : dotB (tokAt T n (step n i)) = true) (t3 : Tok) (ht3 : t3 = tokAt T n (step n i + 1)) (hd3 : nameB t3 = true)
    (hl1 : t.value.size ≤ 140737488351232) (hl3 : t3.value.size ≤ 140737488351232) :
    Calls Ybaf.prog 5 #[.pointer (some ⟨p, 0, none⟩)] w fun e w' => e = .returned (.tuple #[.string ((t.value ++ ⟨#[46]⟩) ++ t3.value), .nilIface]) ∧ w.grownBy w' (some p) ∧ Par w' p (.slice ao n n) (step n (step n i + 1)) := by
  have HA := keep (identifier_yes ao p g n i T t w hn hi hao hg hr hp ht hpg hd)
  have HR := keep hr
  have HG := keep hg
  have HD := keep hd2
  have H3 := keep hd3
  have HT := keep ht3
  have hs := step_le n i
  clear ht hr hp hd hd2 hg hd3 ht3
  go_enter Ybaf.func5, Ybaf.ntmps5
  go_wp2_with fail
  refine HA.out.mono ?_
  rintro e w1 ⟨rfl, gr, hp1⟩
  have HP := keep hp1
  clear hp1
  have HG1 := keep (fun h : 0 < n => Nat.lt_of_lt_of_le (HG.out h) gr.size)
  have HR1 := keep (row_on HR.out HG.out hpg gr)
  go_wp2_with fail
  refine (op_yes ao p g n (step n i) T _ w1 hn (by omega) hao HG1.out HR1.out HP.out rfl hpg HD.out).mono ?_
  rintro e w2 ⟨rfl, gr2, hp2⟩
  have HP2 := keep hp2
  clear hp2
  have HG2 := keep (fun h : 0 < n => Nat.lt_of_lt_of_le (HG1.out h) gr2.size)
  have HR2 := keep (row_on HR1.out HG1.out hpg gr2)
  go_wp2_with fail
  refine (identifier_yes ao p g n (step n i + 1) T t3 w2 hn (by omega) hao HG2.out HR2.out HP2.out HT.out hpg H3.out).mono ?_
  rintro e w3 ⟨rfl, gr3, hp3⟩
  have HP3 := keep hp3
  clear hp3
  go_wp2
  go_ret2
  exact ⟨rfl, grown_trans gr (grown_trans gr2 gr3), HP3.out⟩
end Go.Proofs.YbulkgekqFmt
