/-
  9054B, first text: the parser's block; the walks of held, Next (on the zero scanner), advance.
-/
import Derived.Test.YbulkgemgFmtRows
import Derived.WalkKit
import Derived.BigQuiet
import Derived.Deep.QuietTactic
import Derived.Deep.RegionWith
import Derived.Deep.RegionHeld3
namespace Go.Proofs.YbulkgemgFmt
open Go.RowKit
set_option linter.unusedSimpArgs false
set_option linter.unusedVariables false

theorem keep {p : Prop} (h : p) : Hid p := h

theorem grown_trans {a b c : World} {r : Option Nat} (h : a.grownBy b r) (k : b.grownBy c r) : a.grownBy c r :=
  ⟨k.os.trans h.os, k.tape.trans h.tape, k.output.trans h.output, Nat.le_trans h.size k.size, fun i hi hr => (k.block i (Nat.lt_of_lt_of_le hi h.size) hr).trans (h.block i hi hr)⟩
theorem grown_none {a b : World} (h : a.grownBy b none) (r : Option Nat) : a.grownBy b r := ⟨h.os, h.tape, h.output, h.size, fun i hi _ => h.block i hi (by simp)⟩
theorem grown_alloc {a b : World} {r : Option Nat} (h : a.grownBy b r) (o : Obj) : a.grownBy (b.alloc o) r := grown_trans h (World.grownBy_alloc b o r)
theorem grown_drew {a b : World} {r : Option Nat} (h : a.grownBy b r) : a.grownBy b.drew r := ⟨h.os, h.tape, h.output, h.size, h.block⟩
theorem grown_drewN {a b : World} {r : Option Nat} (h : a.grownBy b r) (n : Nat) : a.grownBy (b.drewN n) r := ⟨h.os, h.tape, h.output, h.size, h.block⟩
theorem grown_setCell {a b : World} {r : Option Nat} (h : a.grownBy b r) {p : Addr} (hp : a.heap.size ≤ p.block ∨ some p.block = r) (u : Value) : a.grownBy (b.setCell p u) r :=
  ⟨h.os, h.tape, h.output, by simpa [World.setCell] using h.size, fun i hi hr => by
    have hne : i ≠ p.block := by
      rcases hp with hp | hp
      · omega
      · rintro rfl; exact hr hp
    rw [Below.heap_setCell _ _ _ _ hne]; exact h.block i hi hr⟩
theorem gcell {W w1 : World} (h : W.grownBy w1 none) : (∀ b o, b < W.heap.size → w1.cell? ⟨b, o, none⟩ = W.cell? ⟨b, o, none⟩) ∧ (∀ b o, b < W.heap.size → w1.frozen? ⟨b, o, none⟩ = W.frozen? ⟨b, o, none⟩) ∧ W.heap.size ≤ w1.heap.size :=
  ⟨fun b _ hb => World.cell?_of_block (w := W) (h.block b hb (by simp)), fun b _ hb => World.frozen?_of_block (w := W) (h.block b hb (by simp)), h.size⟩

/-- the parser's block: what can differ of it. -/
def PB (G : Value) (k s : Int) (tx : ByteArray) (li co d : Int) (NF : Value) (nn : Int) : Array Value :=
  #[G, .pointer none, .string ⟨#[]⟩, .int .i64 0, .int .i32 0, .int .i64 0, .int .u8 k, .int .i64 s, .string tx, .int .i32 li, .int .i32 co, .int .i64 d, NF, .int .i64 nn, .slice none 0 0, .int .i64 0, .slice none 0 0]
def Par (w : World) (p : Nat) (G : Value) (k s : Int) (tx : ByteArray) (li co d : Int) (NF : Value) (nn : Int) : Prop := w.heap[p]? = some (.cells (PB G k s tx li co d NF nn) 52 (0, 0))

section
variable {w w' : World} {p : Nat} {G : Value} {k s : Int} {tx : ByteArray} {li co d : Int} {NF : Value} {nn : Int}
theorem Par.lt (h : Par w p G k s tx li co d NF nn) : p < w.heap.size := (Array.getElem?_eq_some_iff.1 h).1
theorem Par.cell (h : Par w p G k s tx li co d NF nn) (o : Nat) : w.cell? ⟨p, o, none⟩ = (PB G k s tx li co d NF nn)[o]? := by unfold Par at h; simp [World.cell?, h]
theorem Par.free (h : Par w p G k s tx li co d NF nn) (o : Nat) : w.frozen? ⟨p, o, none⟩ = false := by unfold Par at h; simp [World.frozen?, h]
theorem Par.grown {r : Option Nat} (h : Par w p G k s tx li co d NF nn) (hg : w.grownBy w' r) (hr : some p ≠ r) : Par w' p G k s tx li co d NF nn := (hg.block p h.lt hr).trans h
theorem Par.alloc (h : Par w p G k s tx li co d NF nn) (o : Obj) : Par (w.alloc o) p G k s tx li co d NF nn := (Below.heap_alloc w o p h.lt).trans h
theorem Par.drewN (h : Par w p G k s tx li co d NF nn) (n : Nat) : Par (w.drewN n) p G k s tx li co d NF nn := h
theorem Par.setOther (h : Par w p G k s tx li co d NF nn) {a : Addr} (ha : p ≠ a.block) (u : Value) : Par (w.setCell a u) p G k s tx li co d NF nn := (Below.heap_setCell w a u p ha).trans h
end

theorem heap_setCell_at {w : World} {B : Nat} {cur : Array Value} {e : TypeId} (h : w.heap[B]? = some (.cells cur e (0, 0))) (j : Nat) (u : Value) :
    (w.setCell ⟨B, j, none⟩ u).heap[B]? = some (.cells (cur.setIfInBounds j u) e (0, 0)) := by
  simp [World.setCell, Array.getElem?_modify, h]

theorem held_one (w : World) : Calls Ybaf.prog 18 #[.int .i64 1] w fun e w' => e = .returned (.int .i32 1) ∧ w' = w := by
  go_enter Ybaf.func18, Ybaf.ntmps18
  go_wp2
  go_ret
  exact ⟨rfl, rfl⟩

set_option maxHeartbeats 1000000 in
set_option maxRecDepth 100000 in
theorem next_zero (p : Nat) (w : World) (hp : p < w.heap.size) (h2 : w.cell? ⟨p, 2, none⟩ = some (.string ⟨#[]⟩)) (h3 : w.cell? ⟨p, 3, none⟩ = some (.int .i64 0)) (h4 : w.cell? ⟨p, 4, none⟩ = some (.int .i32 0)) (h5 : w.cell? ⟨p, 5, none⟩ = some (.int .i64 0)) :
    Calls Ybaf.prog 13 #[.pointer (some ⟨p, 1, none⟩)] w fun e w' => e = .returned (.agg #[.int .u8 0, .int .i64 0, .string ⟨#[]⟩, .int .i32 0, .int .i32 1]) ∧ w.grownBy w' none := by
  have e1 := World.new_ne w _ h3
  have e2 : p < w.heap.size + 1 := by omega
  go_enter Ybaf.func13, Ybaf.ntmps13
  go_wp2
  refine wp_loop_rounds 1 ?_
  rw [rounds_succ]
  go_wp2
  go_quiet (fail)
  go_wp2
  go_region_held3 (fun w' => w'.cell? ⟨p, 3, none⟩ = some (.int .i64 0) ∧ w'.cell? ⟨p, 4, none⟩ = some (.int .i32 0) ∧ w'.cell? ⟨p, 5, none⟩ = some (.int .i64 0)) (go_keep) (first | (go_at_call 18; refine (held_one _).mono ?_; rintro e w' ⟨rfl, rfl⟩))
  all_goals
    go_wp2
    go_quiet (fail)
    go_wp2
    refine bodyPost_ret (v := .agg #[.int .u8 0, .int .i64 0, .string ⟨#[]⟩, .int .i32 0, .int .i32 1]) (by simp [results, Ybaf.results13, go_sem]) rfl ⟨rfl, ?_⟩
    repeat (with_reducible first | exact World.grownBy.refl _ _ | refine grown_setCell ?_ (by first | exact Or.inl (by simp) | exact Or.inl (by simp; omega)) _ | refine grown_alloc ?_ _ | refine grown_drew ?_ | refine grown_drewN ?_ _)
end Go.Proofs.YbulkgemgFmt
