/-
  9051B, second text: the walks of zzs9051bisname, isOp, advance, op.
-/
import Derived.Test.YbulkgekqFmtWalkA
namespace Go.Proofs.YbulkgekqFmt
open Go.RowKit
set_option linter.unusedSimpArgs false
set_option linter.unusedVariables false

theorem keep {p : Prop} (h : p) : Hid p := h

def identB (t : Tok) : Bool := t.kind.toList == [105, 100, 101, 110, 116, 105, 102, 105, 101, 114]
def quotedB (t : Tok) : Bool := t.kind.toList == [113, 117, 111, 116, 101, 100, 32, 105, 100, 101, 110, 116, 105, 102, 105, 101, 114]
def opB (t : Tok) : Bool := t.kind.toList == [111, 112, 101, 114, 97, 116, 111, 114]
def eofB (t : Tok) : Bool := t.kind.toList == [101, 110, 100, 32, 111, 102, 32, 105, 110, 112, 117, 116]
def dotText (t : Tok) : Bool := t.text.toList == [46]
def nameB (t : Tok) : Bool := identB t || quotedB t
def dotB (t : Tok) : Bool := opB t && dotText t

theorem isname_any (t : Tok) (w : World) :
    Calls Ybaf.prog 7 #[.agg #[.string t.kind, .string t.text, .string t.value, .int .i64 t.start, .int .i64 t.fin]] w fun e w' => e = .returned (.bool (nameB t)) ∧ w.grownBy w' none := by
  cases h1 : identB t with
  | true =>
    have e1 : nameB t = true := by simp [nameB, h1]
    rw [e1]
    unfold identB at h1
    go_enter Ybaf.func7, Ybaf.ntmps7
    go_wp2
    go_ret
    exact ⟨rfl, by repeat (with_reducible first | exact World.grownBy.refl _ _ | refine grown_setCell ?_ (by simp) _ | refine grown_alloc ?_ _ | refine grown_drew ?_ | refine grown_drewN ?_ _)⟩
  | false =>
    cases h2 : quotedB t with
    | true =>
      have e1 : nameB t = true := by simp [nameB, h2]
      rw [e1]
      unfold identB at h1
      unfold quotedB at h2
      go_enter Ybaf.func7, Ybaf.ntmps7
      go_wp2
      go_ret
      exact ⟨rfl, by repeat (with_reducible first | exact World.grownBy.refl _ _ | refine grown_setCell ?_ (by simp) _ | refine grown_alloc ?_ _ | refine grown_drew ?_ | refine grown_drewN ?_ _)⟩
    | false =>
      have e1 : nameB t = false := by simp [nameB, h1, h2]
      rw [e1]
      unfold identB at h1
      unfold quotedB at h2
      go_enter Ybaf.func7, Ybaf.ntmps7
      go_wp2
      go_ret
      exact ⟨rfl, by repeat (with_reducible first | exact World.grownBy.refl _ _ | refine grown_setCell ?_ (by simp) _ | refine grown_alloc ?_ _ | refine grown_drew ?_ | refine grown_drewN ?_ _)⟩

theorem isOp_any (t : Tok) (w : World) :
    Calls Ybaf.prog 13 #[.agg #[.string t.kind, .string t.text, .string t.value, .int .i64 t.start, .int .i64 t.fin], .string ⟨#[46]⟩] w fun e w' => e = .returned (.bool (dotB t)) ∧ w.grownBy w' none := by
  cases h1 : opB t with
  | true =>
    cases h2 : dotText t with
    | true =>
      have e1 : dotB t = true := by simp [dotB, h1, h2]
      rw [e1]
      unfold opB at h1
      unfold dotText at h2
      go_enter Ybaf.func13, Ybaf.ntmps13
      go_wp2
      go_ret
      exact ⟨rfl, by repeat (with_reducible first | exact World.grownBy.refl _ _ | refine grown_setCell ?_ (by simp) _ | refine grown_alloc ?_ _ | refine grown_drew ?_ | refine grown_drewN ?_ _)⟩
    | false =>
      have e1 : dotB t = false := by simp [dotB, h1, h2]
      rw [e1]
      unfold opB at h1
      unfold dotText at h2
      go_enter Ybaf.func13, Ybaf.ntmps13
      go_wp2
      go_ret
      exact ⟨rfl, by repeat (with_reducible first | exact World.grownBy.refl _ _ | refine grown_setCell ?_ (by simp) _ | refine grown_alloc ?_ _ | refine grown_drew ?_ | refine grown_drewN ?_ _)⟩
  | false =>
    have e1 : dotB t = false := by simp [dotB, h1]
    rw [e1]
    unfold opB at h1
    go_enter Ybaf.func13, Ybaf.ntmps13
    go_wp2
    go_ret
    exact ⟨rfl, by repeat (with_reducible first | exact World.grownBy.refl _ _ | refine grown_setCell ?_ (by simp) _ | refine grown_alloc ?_ _ | refine grown_drew ?_ | refine grown_drewN ?_ _)⟩

theorem Par.setOther {w : World} {p : Nat} {v : Value} {pos : Int} (h : Par w p v pos) {a : Addr} (ha : p ≠ a.block) (u : Value) : Par (w.setCell a u) p v pos :=
  (Below.heap_setCell w a u p ha).trans h
theorem Par.alloc {w : World} {p : Nat} {v : Value} {pos : Int} (h : Par w p v pos) (o : Obj) : Par (w.alloc o) p v pos :=
  (Below.heap_alloc w o p h.lt).trans h
theorem Par.drewN {w : World} {p : Nat} {v : Value} {pos : Int} (h : Par w p v pos) (n : Nat) : Par (w.drewN n) p v pos := h
theorem Par.set1 {w : World} {p : Nat} {v : Value} {pos : Int} (h : Par w p v pos) (q : Int) : Par (w.setCell ⟨p, 1, none⟩ (.int .i64 q)) p v q := by
  unfold Par at h ⊢
  have hlt := (Array.getElem?_eq_some_iff.1 h).1
  simp [World.setCell, Array.getElem?_modify, h]

set_option maxHeartbeats 1000000 in
theorem advance_in (ao : Option Addr) (p g n i : Nat) (T : Nat → Tok) (t : Tok) (w : World) (hn : n ≤ 1048576) (hi : i ≤ 2000000) (hao : 0 < n → ao = some ⟨g, 0, none⟩) (hg : 0 < n → g < w.heap.size) (hr : Row w g n T) (hp : Par w p (.slice ao n n) i) (ht : t = tokAt T n i) (hlt : i < n) (hpg : g ≠ p) :
    Calls Ybaf.prog 10 #[.pointer (some ⟨p, 0, none⟩)] w fun e w' => e = .returned (.agg #[.string t.kind, .string t.text, .string t.value, .int .i64 t.start, .int .i64 t.fin]) ∧ w.grownBy w' (some p) ∧ Par w' p (.slice ao n n) (i + 1 : Nat) := by
  have ha : ∀ o : Obj, Calls Ybaf.prog 12 #[.pointer (some ⟨p, 0, none⟩)] (w.alloc o) fun e w' => e = .returned (.agg #[.string t.kind, .string t.text, .string t.value, .int .i64 t.start, .int .i64 t.fin]) ∧ (w.alloc o).grownBy w' none := by
    intro o
    have gr := World.grownBy_alloc w o none
    exact peek_any ao p g n i T t _ hn hi hao (fun h => Nat.lt_of_lt_of_le (hg h) gr.size) (hr.grown gr (hg (by omega)) (by simp)) (hp.grown gr (by simp)) ht
  have HA := keep ha
  have HP := keep hp
  have pl := hp.lt
  have p0 := hp.c0
  have p1 := hp.c1
  have p2 := hp.free 1
  clear ha ht hr hp
  go_enter Ybaf.func10, Ybaf.ntmps10
  go_wp2_with fail
  refine (HA.out _).mono ?_
  rintro e w1 ⟨rfl, gr⟩
  obtain ⟨hc, hf, hz⟩ := gcell gr
  simp only [World.size_alloc] at hc hf hz
  have pl' : p < w.heap.size + 1 := by omega
  have pl1 : p < w1.heap.size := by omega
  have hz1 : w.heap.size < w1.heap.size := by omega
  have np0 : w.heap.size ≠ p := by omega
  have np1 : p ≠ w.heap.size := by omega
  go_wp2
  go_quiet (fail)
  go_wp2
  refine bodyPost_ret (v := .agg #[.string t.kind, .string t.text, .string t.value, .int .i64 t.start, .int .i64 t.fin]) (by simp [results, Ybaf.results10, go_sem, hc, hf, hz1, np0, np1]) rfl ⟨rfl, ?_, ?_⟩
  · have HB := grown_none (grown_trans (grown_alloc (World.grownBy.refl w none) _) gr) (some p)
    repeat (with_reducible first | exact HB | refine grown_setCell ?_ (by first | exact Or.inr rfl | exact Or.inl (by simp) | exact Or.inl (by simp; omega)) _ | refine grown_alloc ?_ _ | refine grown_drewN ?_ _)
  · rw [show ((i + 1 : Nat) : Int) = (i : Int) + 1 by omega]
    have HB := (Par.alloc HP.out _).grown gr (by simp)
    repeat (with_reducible first | exact HB | refine Par.set1 (pos := i) ?_ _ | refine Par.setOther ?_ (by simp; omega) _ | refine Par.alloc ?_ _ | refine Par.drewN ?_ _)

set_option maxHeartbeats 1000000 in
theorem advance_out (ao : Option Addr) (p g n i : Nat) (T : Nat → Tok) (t : Tok) (w : World) (hn : n ≤ 1048576) (hi : i ≤ 2000000) (hao : 0 < n → ao = some ⟨g, 0, none⟩) (hg : 0 < n → g < w.heap.size) (hr : Row w g n T) (hp : Par w p (.slice ao n n) i) (ht : t = tokAt T n i) (hlt : ¬ i < n) (hpg : 0 < n → g ≠ p) :
    Calls Ybaf.prog 10 #[.pointer (some ⟨p, 0, none⟩)] w fun e w' => e = .returned (.agg #[.string t.kind, .string t.text, .string t.value, .int .i64 t.start, .int .i64 t.fin]) ∧ w.grownBy w' (some p) ∧ Par w' p (.slice ao n n) i := by
  have ha : ∀ o : Obj, Calls Ybaf.prog 12 #[.pointer (some ⟨p, 0, none⟩)] (w.alloc o) fun e w' => e = .returned (.agg #[.string t.kind, .string t.text, .string t.value, .int .i64 t.start, .int .i64 t.fin]) ∧ (w.alloc o).grownBy w' none := by
    intro o
    have gr := World.grownBy_alloc w o none
    refine peek_any ao p g n i T t _ hn hi hao (fun h => Nat.lt_of_lt_of_le (hg h) gr.size) ?_ (hp.grown gr (by simp)) ht
    by_cases h0 : 0 < n
    · exact hr.grown gr (hg h0) (by simp)
    · intro j hj; omega
  have HA := keep ha
  have HP := keep hp
  have pl := hp.lt
  have p0 := hp.c0
  have p1 := hp.c1
  clear ha ht hr hp
  go_enter Ybaf.func10, Ybaf.ntmps10
  go_wp2_with fail
  refine (HA.out _).mono ?_
  rintro e w1 ⟨rfl, gr⟩
  obtain ⟨hc, hf, hz⟩ := gcell gr
  simp only [World.size_alloc] at hc hf hz
  have pl' : p < w.heap.size + 1 := by omega
  have pl1 : p < w1.heap.size := by omega
  have hz1 : w.heap.size < w1.heap.size := by omega
  have np0 : w.heap.size ≠ p := by omega
  have np1 : p ≠ w.heap.size := by omega
  go_wp2
  go_quiet (fail)
  go_wp2
  refine bodyPost_ret (v := .agg #[.string t.kind, .string t.text, .string t.value, .int .i64 t.start, .int .i64 t.fin]) (by simp [results, Ybaf.results10, go_sem, hc, hf, hz1, np0, np1]) rfl ⟨rfl, ?_, ?_⟩
  · have HB := grown_none (grown_trans (grown_alloc (World.grownBy.refl w none) _) gr) (some p)
    repeat (with_reducible first | exact HB | refine grown_setCell ?_ (by first | exact Or.inr rfl | exact Or.inl (by simp) | exact Or.inl (by simp; omega)) _ | refine grown_alloc ?_ _ | refine grown_drewN ?_ _)
  · have HB := (Par.alloc HP.out _).grown gr (by simp)
    repeat (with_reducible first | exact HB | refine Par.setOther ?_ (by simp; omega) _ | refine Par.alloc ?_ _ | refine Par.drewN ?_ _)

/-- what advance leaves in pos. -/
def step (n i : Nat) : Nat := if i < n then i + 1 else i

theorem advance_any (ao : Option Addr) (p g n i : Nat) (T : Nat → Tok) (t : Tok) (w : World) (hn : n ≤ 1048576) (hi : i ≤ 2000000) (hao : 0 < n → ao = some ⟨g, 0, none⟩) (hg : 0 < n → g < w.heap.size) (hr : Row w g n T) (hp : Par w p (.slice ao n n) i) (ht : t = tokAt T n i) (hpg : 0 < n → g ≠ p) :
    Calls Ybaf.prog 10 #[.pointer (some ⟨p, 0, none⟩)] w fun e w' => e = .returned (.agg #[.string t.kind, .string t.text, .string t.value, .int .i64 t.start, .int .i64 t.fin]) ∧ w.grownBy w' (some p) ∧ Par w' p (.slice ao n n) (step n i) := by
  by_cases hlt : i < n
  · rw [step, if_pos hlt]; exact advance_in ao p g n i T t w hn hi hao hg hr hp ht hlt (hpg (by omega))
  · rw [step, if_neg hlt]; exact advance_out ao p g n i T t w hn hi hao hg hr hp ht hlt hpg

set_option maxHeartbeats 1000000 in
theorem op_yes (ao : Option Addr) (p g n i : Nat) (T : Nat → Tok) (t : Tok) (w : World) (hn : n ≤ 1048576) (hi : i ≤ 2000000) (hao : 0 < n → ao = some ⟨g, 0, none⟩) (hg : 0 < n → g < w.heap.size) (hr : Row w g n T) (hp : Par w p (.slice ao n n) i) (ht : t = tokAt T n i) (hpg : 0 < n → g ≠ p) (hd : dotB t = true) :
    Calls Ybaf.prog 9 #[.pointer (some ⟨p, 0, none⟩), .string ⟨#[46]⟩] w fun e w' => e = .returned (.bool true) ∧ w.grownBy w' (some p) ∧ Par w' p (.slice ao n n) (i + 1 : Nat) := by
  have HA := keep (peek_any ao p g n i T t w hn hi hao hg hr hp ht)
  have HP := keep hp
  have HD := keep hd
  have pl := hp.lt
  have p1 := hp.c1
  have p2 := hp.free 1
  clear ht hr hp hd
  go_enter Ybaf.func9, Ybaf.ntmps9
  go_wp2_with fail
  refine HA.out.mono ?_
  rintro e w1 ⟨rfl, gr⟩
  obtain ⟨hc, hf, hz⟩ := gcell gr
  go_wp2_with fail
  refine (isOp_any t _).mono ?_
  rintro e w2 ⟨rfl, gr2⟩
  rw [HD.out]
  obtain ⟨hc2, hf2, hz2⟩ := gcell gr2
  have pl1 : p < w1.heap.size := by omega
  go_wp2
  go_ret
  refine ⟨rfl, ?_, ?_⟩
  · exact grown_setCell (grown_none (grown_trans gr gr2) _) (Or.inr rfl) _
  · rw [show ((i + 1 : Nat) : Int) = (i : Int) + 1 by omega]
    exact Par.set1 (pos := i) ((Par.grown HP.out gr (by simp)).grown gr2 (by simp)) _

set_option maxHeartbeats 1000000 in
theorem op_no (ao : Option Addr) (p g n i : Nat) (T : Nat → Tok) (t : Tok) (w : World) (hn : n ≤ 1048576) (hi : i ≤ 2000000) (hao : 0 < n → ao = some ⟨g, 0, none⟩) (hg : 0 < n → g < w.heap.size) (hr : Row w g n T) (hp : Par w p (.slice ao n n) i) (ht : t = tokAt T n i) (hpg : 0 < n → g ≠ p) (hd : dotB t = false) :
    Calls Ybaf.prog 9 #[.pointer (some ⟨p, 0, none⟩), .string ⟨#[46]⟩] w fun e w' => e = .returned (.bool false) ∧ w.grownBy w' none ∧ Par w' p (.slice ao n n) i := by
  have HA := keep (peek_any ao p g n i T t w hn hi hao hg hr hp ht)
  have HP := keep hp
  have HD := keep hd
  clear ht hr hp hd
  go_enter Ybaf.func9, Ybaf.ntmps9
  go_wp2_with fail
  refine HA.out.mono ?_
  rintro e w1 ⟨rfl, gr⟩
  go_wp2_with fail
  refine (isOp_any t _).mono ?_
  rintro e w2 ⟨rfl, gr2⟩
  rw [HD.out]
  go_wp2
  go_ret
  exact ⟨rfl, grown_trans gr gr2, (Par.grown HP.out gr (by simp)).grown gr2 (by simp)⟩

end Go.Proofs.YbulkgekqFmt
