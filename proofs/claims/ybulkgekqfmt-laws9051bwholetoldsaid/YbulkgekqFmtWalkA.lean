/-
  9051B, first text: plain tokens, the parser's state, the walks of zzs9051bat, peekAt, peek.
-/
import Derived.Test.YbulkgekqFmtRows
import Derived.WalkKit
import Derived.BigQuiet
import Derived.Deep.QuietTactic
namespace Go.Proofs.YbulkgekqFmt
open Go.RowKit
set_option linter.unusedSimpArgs false
set_option linter.unusedVariables false

/-- One token, as plain data. -/
structure Tok where
  kind : ByteArray
  text : ByteArray
  value : ByteArray
  start : Int
  fin : Int

/-- The row of tokens at block g. -/
def Row (w : World) (g n : Nat) (T : Nat → Tok) : Prop :=
  ∀ i, i < n → w.cell? ⟨g, i * 5, none⟩ = some (.string (T i).kind) ∧ w.cell? ⟨g, i * 5 + 1, none⟩ = some (.string (T i).text) ∧ w.cell? ⟨g, i * 5 + 2, none⟩ = some (.string (T i).value) ∧
    w.cell? ⟨g, i * 5 + 3, none⟩ = some (.int .i64 (T i).start) ∧ w.cell? ⟨g, i * 5 + 4, none⟩ = some (.int .i64 (T i).fin)

def eofK : ByteArray := { data := #[101, 110, 100, 32, 111, 102, 32, 105, 110, 112, 117, 116] }
/-- the token at i, or the end token. -/
def tokAt (T : Nat → Tok) (n i : Nat) : Tok := if i < n then T i else ⟨eofK, ⟨#[]⟩, ⟨#[]⟩, if 0 < n then (T (n - 1)).fin else 0, if 0 < n then (T (n - 1)).fin else 0⟩

theorem Row.grown {w w' : World} {g n : Nat} {T : Nat → Tok} {r : Option Nat} (h : Row w g n T) (hg : w.grownBy w' r) (hlt : g < w.heap.size) (hr : some g ≠ r) : Row w' g n T := by
  intro i hi
  have e := hg.block g hlt hr
  obtain ⟨h0, h1, h2, h3, h4⟩ := h i hi
  exact ⟨(World.cell?_of_block (w := w) e).trans h0, (World.cell?_of_block (w := w) e).trans h1, (World.cell?_of_block (w := w) e).trans h2, (World.cell?_of_block (w := w) e).trans h3, (World.cell?_of_block (w := w) e).trans h4⟩

theorem grown_trans {a b c : World} {r : Option Nat} (h : a.grownBy b r) (k : b.grownBy c r) : a.grownBy c r :=
  ⟨k.os.trans h.os, k.tape.trans h.tape, k.output.trans h.output, Nat.le_trans h.size k.size, fun i hi hr => (k.block i (Nat.lt_of_lt_of_le hi h.size) hr).trans (h.block i hi hr)⟩
theorem grown_none {a b : World} (h : a.grownBy b none) (r : Option Nat) : a.grownBy b r := ⟨h.os, h.tape, h.output, h.size, fun i hi _ => h.block i hi (by simp)⟩
theorem grown_alloc {a b : World} {r : Option Nat} (h : a.grownBy b r) (o : Obj) : a.grownBy (b.alloc o) r := grown_trans h (World.grownBy_alloc b o r)
theorem grown_drew {a b : World} {r : Option Nat} (h : a.grownBy b r) : a.grownBy b.drew r := ⟨h.os, h.tape, h.output, h.size, h.block⟩
theorem grown_drewN {a b : World} {r : Option Nat} (h : a.grownBy b r) (n : Nat) : a.grownBy (b.drewN n) r := ⟨h.os, h.tape, h.output, h.size, h.block⟩
theorem grown_setCell {a b : World} {r : Option Nat} (h : a.grownBy b r) {p : Addr} (hp : a.heap.size ≤ p.block ∨ some p.block = r) (u : Value) : a.grownBy (b.setCell p u) r :=
  ⟨h.os, h.tape, h.output, by simpa [World.setCell] using h.size, fun i hi hr => by
    have hne : i ≠ p.block := by
      rcases hp with hp | hp
      · omega
      · rintro rfl; exact hr hp
    rw [Below.heap_setCell _ _ _ _ hne]; exact h.block i hi hr⟩

set_option maxHeartbeats 400000 in
theorem at_any (ao : Option Addr) (g n i : Nat) (T : Nat → Tok) (t : Tok) (w : World) (hn : n ≤ 1048576) (hi : i ≤ 2000000) (hao : 0 < n → ao = some ⟨g, 0, none⟩) (hg : 0 < n → g < w.heap.size) (hr : Row w g n T) (ht : t = tokAt T n i) :
    Calls Ybaf.prog 6 #[.slice ao n n, .int .i64 i] w fun e w' => e = .returned (.agg #[.string t.kind, .string t.text, .string t.value, .int .i64 t.start, .int .i64 t.fin]) ∧ w.grownBy w' none := by
  by_cases hlt : i < n
  · obtain rfl : t = T i := by rw [ht, tokAt, if_pos hlt]
    obtain rfl := hao (by omega)
    have hg' := hg (by omega)
    obtain ⟨h0, h1, h2, h3, h4⟩ := hr i hlt
    clear ht hao hg hr
    go_enter Ybaf.func6, Ybaf.ntmps6
    go_wp2
    exact bodyPost_ret (v := .agg #[.string (T i).kind, .string (T i).text, .string (T i).value, .int .i64 (T i).start, .int .i64 (T i).fin]) (by simp [results, Ybaf.results6, go_sem]) rfl ⟨rfl, by repeat (with_reducible first | exact World.grownBy.refl _ _ | refine grown_setCell ?_ (by simp) _ | refine grown_alloc ?_ _ | refine grown_drew ?_)⟩
  · by_cases h0 : 0 < n
    · obtain rfl : t = ⟨eofK, ⟨#[]⟩, ⟨#[]⟩, (T (n - 1)).fin, (T (n - 1)).fin⟩ := by rw [ht, tokAt, if_neg hlt, if_pos h0]
      obtain rfl := hao h0
      have hg' := hg (by omega)
      obtain ⟨_, _, _, _, h4⟩ := hr (n - 1) (by omega)
      clear ht hao hg hr
      go_enter Ybaf.func6, Ybaf.ntmps6
      go_wp2
      exact bodyPost_ret (v := .agg #[.string eofK, .string ⟨#[]⟩, .string ⟨#[]⟩, .int .i64 (T (n - 1)).fin, .int .i64 (T (n - 1)).fin]) (by simp [results, Ybaf.results6, go_sem]; rfl) rfl ⟨rfl, by repeat (with_reducible first | exact World.grownBy.refl _ _ | refine grown_setCell ?_ (by simp) _ | refine grown_alloc ?_ _ | refine grown_drew ?_)⟩
    · obtain rfl : n = 0 := by omega
      obtain rfl : t = ⟨eofK, ⟨#[]⟩, ⟨#[]⟩, 0, 0⟩ := by rw [ht, tokAt, if_neg hlt, if_neg h0]
      clear ht hao hg hr
      go_enter Ybaf.func6, Ybaf.ntmps6
      go_wp2
      exact bodyPost_ret (v := .agg #[.string eofK, .string ⟨#[]⟩, .string ⟨#[]⟩, .int .i64 0, .int .i64 0]) (by simp [results, Ybaf.results6, go_sem]; rfl) rfl ⟨rfl, by repeat (with_reducible first | exact World.grownBy.refl _ _ | refine grown_setCell ?_ (by simp) _ | refine grown_alloc ?_ _ | refine grown_drew ?_)⟩

/-- the parser at block p. -/
def Par (w : World) (p : Nat) (v : Value) (pos : Int) : Prop := w.heap[p]? = some (.cells #[v, .int .i64 pos] 27 (0, 0))

theorem Par.lt {w : World} {p : Nat} {v : Value} {pos : Int} (h : Par w p v pos) : p < w.heap.size := (Array.getElem?_eq_some_iff.1 h).1
theorem Par.c0 {w : World} {p : Nat} {v : Value} {pos : Int} (h : Par w p v pos) : w.cell? ⟨p, 0, none⟩ = some v := by unfold Par at h; simp [World.cell?, h]
theorem Par.c1 {w : World} {p : Nat} {v : Value} {pos : Int} (h : Par w p v pos) : w.cell? ⟨p, 1, none⟩ = some (.int .i64 pos) := by unfold Par at h; simp [World.cell?, h]
theorem Par.free {w : World} {p : Nat} {v : Value} {pos : Int} (h : Par w p v pos) (o : Nat) : w.frozen? ⟨p, o, none⟩ = false := by unfold Par at h; simp [World.frozen?, h]
theorem Par.grown {w w' : World} {p : Nat} {v : Value} {pos : Int} {r : Option Nat} (h : Par w p v pos) (hg : w.grownBy w' r) (hr : some p ≠ r) : Par w' p v pos := (hg.block p h.lt hr).trans h

set_option maxHeartbeats 1000000 in
theorem peekAt_any (ao : Option Addr) (p g n i : Nat) (T : Nat → Tok) (t : Tok) (w : World) (hn : n ≤ 1048576) (hi : i ≤ 2000000) (hao : 0 < n → ao = some ⟨g, 0, none⟩) (hg : 0 < n → g < w.heap.size) (hr : Row w g n T) (hp : Par w p (.slice ao n n) i) (ht : t = tokAt T n i) :
    Calls Ybaf.prog 15 #[.pointer (some ⟨p, 0, none⟩), .int .i64 0] w fun e w' => e = .returned (.agg #[.string t.kind, .string t.text, .string t.value, .int .i64 t.start, .int .i64 t.fin]) ∧ w.grownBy w' none := by
  have p0 := hp.c0
  have p1 := hp.c1
  have pl := hp.lt
  clear hp
  by_cases hlt : i < n
  · obtain rfl : t = T i := by rw [ht, tokAt, if_pos hlt]
    obtain rfl := hao (by omega)
    have hg' := hg (by omega)
    obtain ⟨h0, h1, h2, h3, h4⟩ := hr i hlt
    clear ht hao hg hr
    go_enter Ybaf.func15, Ybaf.ntmps15
    go_wp2
    go_quiet (fail)
    go_wp2
    go_region
    go_wp2
    exact bodyPost_ret (v := .agg #[.string (T i).kind, .string (T i).text, .string (T i).value, .int .i64 (T i).start, .int .i64 (T i).fin]) (by simp [results, Ybaf.results15, go_sem]) rfl ⟨rfl, by repeat (with_reducible first | exact World.grownBy.refl _ _ | refine grown_setCell ?_ (by simp) _ | refine grown_alloc ?_ _ | refine grown_drew ?_ | refine grown_drewN ?_ _)⟩
  · by_cases h0 : 0 < n
    · obtain rfl : t = ⟨eofK, ⟨#[]⟩, ⟨#[]⟩, (T (n - 1)).fin, (T (n - 1)).fin⟩ := by rw [ht, tokAt, if_neg hlt, if_pos h0]
      obtain rfl := hao h0
      have hg' := hg (by omega)
      obtain ⟨_, _, _, _, h4⟩ := hr (n - 1) (by omega)
      clear ht hao hg hr
      go_enter Ybaf.func15, Ybaf.ntmps15
      go_wp2
      go_quiet (fail)
      go_wp2
      go_quiet (fail)
      go_wp2
      exact bodyPost_ret (v := .agg #[.string eofK, .string ⟨#[]⟩, .string ⟨#[]⟩, .int .i64 (T (n - 1)).fin, .int .i64 (T (n - 1)).fin]) (by simp [results, Ybaf.results15, go_sem, eofK]) rfl ⟨rfl, by repeat (with_reducible first | exact World.grownBy.refl _ _ | refine grown_setCell ?_ (by simp) _ | refine grown_alloc ?_ _ | refine grown_drew ?_ | refine grown_drewN ?_ _)⟩
    · obtain rfl : n = 0 := by omega
      obtain rfl : t = ⟨eofK, ⟨#[]⟩, ⟨#[]⟩, 0, 0⟩ := by rw [ht, tokAt, if_neg hlt, if_neg h0]
      clear ht hao hg hr
      go_enter Ybaf.func15, Ybaf.ntmps15
      go_wp2
      go_quiet (fail)
      go_wp2
      exact bodyPost_ret (v := .agg #[.string eofK, .string ⟨#[]⟩, .string ⟨#[]⟩, .int .i64 0, .int .i64 0]) (by simp [results, Ybaf.results15, go_sem, eofK]) rfl ⟨rfl, by repeat (with_reducible first | exact World.grownBy.refl _ _ | refine grown_setCell ?_ (by simp) _ | refine grown_alloc ?_ _ | refine grown_drew ?_ | refine grown_drewN ?_ _)⟩

theorem gcell {W w1 : World} (h : W.grownBy w1 none) : (∀ b o, b < W.heap.size → w1.cell? ⟨b, o, none⟩ = W.cell? ⟨b, o, none⟩) ∧ (∀ b o, b < W.heap.size → w1.frozen? ⟨b, o, none⟩ = W.frozen? ⟨b, o, none⟩) ∧ W.heap.size ≤ w1.heap.size :=
  ⟨fun b _ hb => World.cell?_of_block (w := W) (h.block b hb (by simp)), fun b _ hb => World.frozen?_of_block (w := W) (h.block b hb (by simp)), h.size⟩

set_option maxHeartbeats 1000000 in
theorem peek_any (ao : Option Addr) (p g n i : Nat) (T : Nat → Tok) (t : Tok) (w : World) (hn : n ≤ 1048576) (hi : i ≤ 2000000) (hao : 0 < n → ao = some ⟨g, 0, none⟩) (hg : 0 < n → g < w.heap.size) (hr : Row w g n T) (hp : Par w p (.slice ao n n) i) (ht : t = tokAt T n i) :
    Calls Ybaf.prog 12 #[.pointer (some ⟨p, 0, none⟩)] w fun e w' => e = .returned (.agg #[.string t.kind, .string t.text, .string t.value, .int .i64 t.start, .int .i64 t.fin]) ∧ w.grownBy w' none := by
  have ha : ∀ o : Obj, Calls Ybaf.prog 15 #[.pointer (some ⟨p, 0, none⟩), .int .i64 0] (w.alloc o) fun e w' => e = .returned (.agg #[.string t.kind, .string t.text, .string t.value, .int .i64 t.start, .int .i64 t.fin]) ∧ (w.alloc o).grownBy w' none := by
    intro o
    have gr := World.grownBy_alloc w o none
    refine peekAt_any ao p g n i T t _ hn hi hao (fun h => Nat.lt_of_lt_of_le (hg h) gr.size) ?_ (hp.grown gr (by simp)) ht
    by_cases h0 : 0 < n
    · exact hr.grown gr (hg h0) (by simp)
    · intro j hj; omega
  have HA := (show Hid _ from ha)
  clear ha ht hr hp
  go_enter Ybaf.func12, Ybaf.ntmps12
  go_wp2_with (go_at_call 15; refine (HA.out _).mono ?_; rintro e w1 ⟨rfl, gr⟩; obtain ⟨hc, hf, hz⟩ := gcell gr; simp only [World.size_alloc] at hc hf hz)
  exact bodyPost_ret (v := .agg #[.string t.kind, .string t.text, .string t.value, .int .i64 t.start, .int .i64 t.fin]) (by simp [results, Ybaf.results12, go_sem, hc, hf]) rfl ⟨rfl, by repeat (with_reducible first | exact grown_trans (grown_alloc (World.grownBy.refl _ _) _) gr | refine grown_setCell ?_ (by simp) _)⟩
end Go.Proofs.YbulkgekqFmt
