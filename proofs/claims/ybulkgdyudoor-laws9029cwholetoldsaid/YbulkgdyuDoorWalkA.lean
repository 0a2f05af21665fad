/-
  9029A, first text: frames, a buffer of bytes that a call owns (fine and coarse), the appends, as laws of the walk.
-/
import Derived.Test.YbulkgdyuDoorRows
import Derived.WalkKit
import Derived.Deep.AppendLies
import Derived.Maps.AppendAt
import Derived.Laws.OwnMore
import Derived.Lib.AppendStr
import Derived.Lib.OthersKept
import Derived.Lib.ItoaMem
import Derived.ArgAppend
import Derived.Deep.LoopGhost
import Derived.Deep.QuietTactic
import Derived.Deep.OwnRows
import Derived.BigQuiet
import Derived.Deep.RegionWith
import Derived.Deep.RegionHeld3
import Derived.Deep.RegionLaw
import Derived.OwnWalk
namespace Go.Proofs.YbulkgdyuDoor
open Go.RowKit Go.Lib
set_option linter.unusedSimpArgs false
set_option linter.unusedVariables false

theorem keep {p : Prop} (h : p) : Hid p := h

/-- what turned from w to w': at most the blocks of S, and new ones. -/
structure Fr (S : Nat → Prop) (w w' : World) : Prop where
  os : w'.os = w.os
  tape : w'.tape = w.tape
  output : w'.output = w.output
  size : w.heap.size ≤ w'.heap.size
  block : ∀ k, k < w.heap.size → ¬ S k → w'.heap[k]? = w.heap[k]?
section
variable {S T : Nat → Prop} {a b c w : World}
theorem Fr.refl (S : Nat → Prop) (w : World) : Fr S w w := ⟨rfl, rfl, rfl, Nat.le_refl _, fun _ _ _ => rfl⟩
theorem Fr.mono (h : Fr S a b) (hs : ∀ k, k < a.heap.size → S k → T k) : Fr T a b := ⟨h.os, h.tape, h.output, h.size, fun i hi ht => h.block i hi fun hk => ht (hs i hi hk)⟩
/-- two steps, the second may turn what is new. -/
theorem Fr.next (h : Fr S a b) (k : Fr T b c) (hs : ∀ k, k < a.heap.size → T k → S k) : Fr S a c :=
  ⟨k.os.trans h.os, k.tape.trans h.tape, k.output.trans h.output, Nat.le_trans h.size k.size, fun i hi hn => (k.block i (Nat.lt_of_lt_of_le hi h.size) (fun ht => hn (hs i hi ht))).trans (h.block i hi hn)⟩
theorem Fr.alloc (h : Fr S a w) (o : Obj) : Fr S a (w.alloc o) := ⟨h.os, h.tape, h.output, Nat.le_trans h.size (by simp), fun i hi hs => (Below.heap_alloc w o i (Nat.lt_of_lt_of_le hi h.size)).trans (h.block i hi hs)⟩
theorem Fr.drewN (h : Fr S a w) (n : Nat) : Fr S a (w.drewN n) := ⟨h.os, h.tape, h.output, h.size, h.block⟩
theorem Fr.setCell (h : Fr S a w) {p : Addr} (hp : p.block < a.heap.size → S p.block) (u : Value) : Fr S a (w.setCell p u) :=
  ⟨h.os, h.tape, h.output, by simpa [World.setCell] using h.size, fun i hi hs => by
    have hne : i ≠ p.block := by rintro rfl; exact hs (hp hi)
    rw [Below.heap_setCell _ _ _ _ hne]; exact h.block i hi hs⟩
theorem Fr.grown (h : Fr S a w) {row : Option Nat} (hg : w.grownBy b row) (hr : ∀ k, row = some k → k < a.heap.size → S k) : Fr S a b :=
  ⟨hg.os.trans h.os, hg.tape.trans h.tape, hg.output.trans h.output, Nat.le_trans h.size hg.size, fun i hi hs => (hg.block i (Nat.lt_of_lt_of_le hi h.size) (fun e => hs (hr i e.symm hi))).trans (h.block i hi hs)⟩
theorem Fr.cell (h : Fr S a w) {p : Addr} (hp : p.block < a.heap.size) (hs : ¬ S p.block) : w.cell? p = a.cell? p := World.cell?_of_block (h.block _ hp hs)
theorem Fr.below (h : Fr S a w) {B : Nat} (hB : B ≤ a.heap.size) (hs : ∀ k, k < B → ¬ S k) : Below B a w := ⟨h.os, h.tape, h.output, h.size, fun k hk => h.block k (by omega) (hs k hk)⟩
end

theorem i5 : ∃ i0, Ybad.prog.info? 5 = some i0 ∧ i0.zero = some (.int .u8 0) ∧ i0.size = 1 ∧ i0.bytes = 1 := by
  have h : (Ybad.prog.info? 5).map (fun i => (i.zero, i.size, i.bytes)) = some (some (.int .u8 0), 1, 1) := by kernel_rfl
  cases e : Ybad.prog.info? 5 with
  | none => rw [e] at h; cases h
  | some i => rw [e] at h; simp at h; exact ⟨i, rfl, h.1, h.2.1, h.2.2⟩

theorem cells_one (l : List UInt8) : ∀ u ∈ byteCells l, u.oneCell' = true := by
  intro u hu
  simp only [byteCells, List.mem_map] at hu
  obtain ⟨b, _, rfl⟩ := hu
  rfl

/-- a slice whose bytes can be read. -/
def Row (w : World) (v : Value) (m : List UInt8) : Prop :=
  (v = .slice none 0 0 ∧ m = []) ∨ ∃ a c, v = .slice (some a) m.length c ∧ (∀ j u, (byteCells m)[j]? = some u → w.cell? (a.add j) = some u)
/-- the same, in memory below B. -/
def RowB (B : Nat) (w : World) (v : Value) (m : List UInt8) : Prop :=
  (v = .slice none 0 0 ∧ m = []) ∨ ∃ a c, v = .slice (some a) m.length c ∧ (0 < m.length → a.block < B) ∧ (∀ j u, (byteCells m)[j]? = some u → w.cell? (a.add j) = some u)
theorem add_block (a : Addr) (j : Nat) : (a.add j).block = a.block := by unfold Addr.add; split <;> rfl
theorem RowB.row {B : Nat} {w : World} {v : Value} {m : List UInt8} (h : RowB B w v m) : Row w v m := by
  rcases h with h | ⟨a, c, h1, _, h2⟩
  · exact Or.inl h
  · exact Or.inr ⟨a, c, h1, h2⟩
theorem RowB.kept {B : Nat} {w w' : World} {v : Value} {m : List UInt8} (h : RowB B w v m) (hb : ∀ k, k < B → w'.heap[k]? = w.heap[k]?) : RowB B w' v m := by
  rcases h with h | ⟨a, c, h1, h2, h3⟩
  · exact Or.inl h
  · refine Or.inr ⟨a, c, h1, h2, fun j u hu => ?_⟩
    have hl : 0 < m.length := by
      have := (List.getElem?_eq_some_iff.1 hu).1
      rw [byteCells_length] at this
      omega
    exact (World.cell?_of_block (hb _ (by rw [add_block]; exact h2 hl))).trans (h3 j u hu)
theorem RowB.mono {B B' : Nat} {w : World} {v : Value} {m : List UInt8} (h : RowB B w v m) (hb : B ≤ B') : RowB B' w v m := by
  rcases h with h | ⟨a, c, h1, h2, h3⟩
  · exact Or.inl h
  · exact Or.inr ⟨a, c, h1, fun hl => Nat.lt_of_lt_of_le (h2 hl) hb, h3⟩

/-! ### the fine buffer -/
structure Buf (B : Nat) (v0 v : Value) (l : List UInt8) (W0 w : World) : Prop where
  own : w.ownsRow B 5 1 v l.length (byteCells l)
  fr : Fr (fun k => v0.ownBlock = some k) W0 w
  place : ∀ k, v.ownBlock = some k → v0.ownBlock = some k ∨ W0.heap.size ≤ k
  base : B ≤ W0.heap.size
section
variable {B : Nat} {v0 v v' : Value} {l l' : List UInt8} {W0 w w' : World}
theorem Buf.start (h : w.ownsRow B 5 1 v l.length (byteCells l)) (hB : B ≤ w.heap.size) : Buf B v v l w w := ⟨h, Fr.refl _ _, fun k hk => Or.inl hk, hB⟩
theorem own_alloc {n : Nat} {xs : List Value} (h : w.ownsRow B 5 1 v n xs) (o : Obj) : (w.alloc o).ownsRow B 5 1 v n xs := by
  refine ⟨h.1, ?_⟩
  rcases h.2 with h3 | ⟨g, cap, cur, rfl, r1, r2, r3⟩
  · exact Or.inl h3
  · exact Or.inr ⟨g, cap, cur, rfl, r1, (Below.heap_alloc w o g (Array.getElem?_eq_some_iff.1 r2).1).trans r2, r3⟩
theorem own_kept {S : Nat → Prop} {n : Nat} {xs : List Value} (h : w.ownsRow B 5 1 v n xs) (f : Fr S w w') (hs : ∀ k, v.ownBlock = some k → ¬ S k) : w'.ownsRow B 5 1 v n xs := by
  refine ⟨h.1, ?_⟩
  rcases h.2 with h3 | ⟨g, cap, cur, rfl, r1, r2, r3⟩
  · exact Or.inl h3
  · exact Or.inr ⟨g, cap, cur, rfl, r1, (f.block g (Array.getElem?_eq_some_iff.1 r2).1 (hs g rfl)).trans r2, r3⟩
theorem Buf.alloc (h : Buf B v0 v l W0 w) (o : Obj) : Buf B v0 v l W0 (w.alloc o) := ⟨own_alloc h.own o, h.fr.alloc o, h.place, h.base⟩
theorem Buf.drewN (h : Buf B v0 v l W0 w) (n : Nat) : Buf B v0 v l W0 (w.drewN n) := ⟨h.own, h.fr.drewN n, h.place, h.base⟩
theorem Buf.grown (h : Buf B v0 v l W0 w) (ho : w'.ownsRow B 5 1 v' l'.length (byteCells l')) (hg : w.grownBy w' v.ownBlock) (hat : v'.ownBlock = v.ownBlock ∨ v'.ownBlock = some w.heap.size) : Buf B v0 v' l' W0 w' := by
  refine ⟨ho, h.fr.grown hg (fun k hk hlt => ?_), fun k hk => ?_, h.base⟩
  · rcases h.place k hk with e | e
    · exact e
    · omega
  · rcases hat with e | e
    · rw [e] at hk; exact h.place k hk
    · rw [e] at hk
      have := Option.some.inj hk
      have := h.fr.size
      omega
theorem Buf.next {v1 : Value} {l1 : List UInt8} {w1 : World} (h : Buf B v0 v l W0 w) (k : Buf B v v1 l1 w w1) : Buf B v0 v1 l1 W0 w1 := by
  refine ⟨k.own, h.fr.next k.fr (fun i hi hv => ?_), fun i hi => ?_, h.base⟩
  · rcases h.place i hv with e | e
    · exact e
    · omega
  · rcases k.place i hi with e | e
    · exact h.place i e
    · have := h.fr.size
      omega
theorem Buf.lt (h : Buf B v0 v l W0 w) : ∀ k, v.ownBlock = some k → B ≤ k ∧ k < w.heap.size := h.own.lt
theorem Buf.baseNow (h : Buf B v0 v l W0 w) : B ≤ w.heap.size := Nat.le_trans h.base h.fr.size

section
variable {ops : Array Oper} {rest : List Oper} {o : Oper} {a : Act} {Q : Exit → Act → World → Prop}
theorem buf_slice (hgd : o.guard = none) (s x : Operand) (ho : o.op = .call { callee := .builtin .append, args := #[s, x], argTypes := #[22, 22] })
    (h : Buf B v0 v l W0 w) (hs : a.eval s = v) {sv : Value} (hx : a.eval x = sv) (m : List UInt8) (hr : Row w sv m) (hlen : l.length + m.length ≤ 140737488355328)
    (K : ∀ v' w', Buf B v0 v' (l ++ m) W0 w' → wpList Ybad.prog ops Q rest (a.put o.dst v') w') : wpList Ybad.prog ops Q (o :: rest) a w := by
  obtain ⟨i, hi, hz, h1, h2⟩ := i5
  rcases hr with ⟨rfl, rfl⟩ | ⟨ad, c, rfl, hc⟩
  · refine wpList_plain hgd fun K' hK' => ?_
    have hrun := run_append_owned_none (P := Ybad.prog) w B 22 o.type 5 i 1 Ybad.underlying22 hi v l.length (byteCells l) h.own
    unfold Oper.wp execOp
    simp only [ho, resolve, invoke, builtin, Sem.run_bind, Sem.run_pure, Result.andThen_ok, List.map_toArray, List.map_cons, List.map_nil, hs, hx, hrun]
    exact hK' _ _ (K v w (by simpa using h))
  · refine wpList_append_own_at w hgd s x 22 ho B 5 i (.int .u8 0) 1 1 Ybad.underlying22 hi hz h1 h2 rfl (by decide) v l.length (byteCells l) hs h.own ad m.length c (byteCells m) hx (by simp [byteCells_length]) hc (cells_one m) (by unfold maxLen; omega) (by omega) h.baseNow ?_
    intro v' w' ho' hg _ hat
    exact K v' w' (h.grown (l' := l ++ m) (by rw [List.length_append, byteCells_append]; exact ho') hg hat)
theorem buf_lit (hgd : o.guard = none) (s x : Operand) (ho : o.op = .call { callee := .builtin .append, args := #[s, x], argTypes := #[22, 22] })
    (h : Buf B v0 v l W0 w) (hs : a.eval s = v) (m : List UInt8) {arr : Array Value} (harr : arr.toList = byteCells m) {k c : Nat} (hk : m.length = k) (hx : a.eval x = .slice (some ⟨w.heap.size, 0, none⟩) k c) (hlen : l.length + m.length ≤ 140737488355328)
    (K : ∀ v' w', Buf B v0 v' (l ++ m) W0 w' → wpList Ybad.prog ops Q rest (a.put o.dst v') w') : wpList Ybad.prog ops Q (o :: rest) a (w.alloc (.cells arr 5)) := by
  subst hk
  refine buf_slice hgd s x ho (h.alloc _) hs hx m (Or.inr ⟨_, _, rfl, ?_⟩) hlen K
  intro j u hu
  rw [← harr] at hu
  exact World.news_of_block (w := w.alloc (.cells arr 5)) (cs := arr) (t := 5) (fr := (0, 0)) (heap_alloc_new w _) j u hu
end
end

/-! ### the coarse buffer -/
structure KBuf (B : Nat) (v : Value) (l : List UInt8) (W0 w : World) : Prop where
  own : w.ownsRow B 5 1 v l.length (byteCells l)
  bel : Below B W0 w
  oth : OthersKept 5 none W0 w
  base : B ≤ w.heap.size
section
variable {B : Nat} {v v' : Value} {l l' : List UInt8} {W0 w w' : World}
theorem KBuf.start (h : w.ownsRow B 5 1 v l.length (byteCells l)) (hB : B ≤ w.heap.size) : KBuf B v l w w := ⟨h, Below.refl _ _, OthersKept.refl _ _ _, hB⟩
theorem KBuf.alloc (h : KBuf B v l W0 w) (o : Obj) : KBuf B v l W0 (w.alloc o) := ⟨own_alloc h.own o, h.bel.alloc h.base o, h.oth.alloc o, Nat.le_trans h.base (by simp)⟩
theorem KBuf.drewN (h : KBuf B v l W0 w) (n : Nat) : KBuf B v l W0 (w.drewN n) := ⟨h.own, ⟨h.bel.os, h.bel.tape, h.bel.output, h.bel.size, h.bel.block⟩, h.oth, h.base⟩
theorem own_kind {n : Nat} {xs : List Value} (h : w.ownsRow B 5 1 v n xs) : ∀ g, v.ownBlock = some g → ∃ c fz, w.heap[g]? = some (.cells c 5 fz) := by
  intro g hg
  rcases h.2 with ⟨rfl, _⟩ | ⟨g', cap, cur, rfl, _, hgg, _⟩
  · simp [Value.ownBlock] at hg
  · simp [Value.ownBlock] at hg
    subst hg
    exact ⟨cur, _, hgg⟩
theorem KBuf.grown (h : KBuf B v l W0 w) (ho : w'.ownsRow B 5 1 v' l'.length (byteCells l')) (hg : w.grownBy w' v.ownBlock) : KBuf B v' l' W0 w' :=
  ⟨ho, h.bel.grown hg h.base (fun k hk => (h.own.lt k hk).1), h.oth.grown hg (own_kind h.own), Nat.le_trans h.base hg.size⟩
theorem KBuf.next {v1 : Value} {l1 : List UInt8} {w1 : World} (h : KBuf B v l W0 w) (k : KBuf B v1 l1 w w1) : KBuf B v1 l1 W0 w1 := ⟨k.own, h.bel.trans k.bel, h.oth.trans k.oth, k.base⟩

section
variable {ops : Array Oper} {rest : List Oper} {o : Oper} {a : Act} {Q : Exit → Act → World → Prop}
theorem k_slice (hgd : o.guard = none) (s x : Operand) (ho : o.op = .call { callee := .builtin .append, args := #[s, x], argTypes := #[22, 22] })
    (h : KBuf B v l W0 w) (hs : a.eval s = v) {sv : Value} (hx : a.eval x = sv) (m : List UInt8) (hr : Row w sv m) (hlen : l.length + m.length ≤ 140737488355328)
    (K : ∀ v' w', KBuf B v' (l ++ m) W0 w' → wpList Ybad.prog ops Q rest (a.put o.dst v') w') : wpList Ybad.prog ops Q (o :: rest) a w := by
  have hb : Buf B v v l w w := Buf.start h.own h.base
  refine buf_slice hgd s x ho hb hs hx m hr hlen (fun v' w' k => K v' w' ?_)
  have hbel : Below B w w' := k.fr.below h.base (fun i hi e => by have := (h.own.lt i e).1; omega)
  refine h.next ⟨k.own, hbel, fun i o' hi _ hx' => ?_, k.baseNow⟩
  rw [k.fr.block i (Array.getElem?_eq_some_iff.1 hi).1 (fun e => ?_)]
  · exact hi
  · obtain ⟨c, fz, hc⟩ := own_kind h.own i e
    rw [hi] at hc
    exact hx' c fz (Option.some.inj hc)
theorem k_lit (hgd : o.guard = none) (s x : Operand) (ho : o.op = .call { callee := .builtin .append, args := #[s, x], argTypes := #[22, 22] })
    (h : KBuf B v l W0 w) (hs : a.eval s = v) (m : List UInt8) {arr : Array Value} (harr : arr.toList = byteCells m) {k c : Nat} (hk : m.length = k) (hx : a.eval x = .slice (some ⟨w.heap.size, 0, none⟩) k c) (hlen : l.length + m.length ≤ 140737488355328)
    (K : ∀ v' w', KBuf B v' (l ++ m) W0 w' → wpList Ybad.prog ops Q rest (a.put o.dst v') w') : wpList Ybad.prog ops Q (o :: rest) a (w.alloc (.cells arr 5)) := by
  subst hk
  refine k_slice hgd s x ho (h.alloc _) hs hx m (Or.inr ⟨_, _, rfl, ?_⟩) hlen K
  intro j u hu
  rw [← harr] at hu
  exact World.news_of_block (w := w.alloc (.cells arr 5)) (cs := arr) (t := 5) (fr := (0, 0)) (heap_alloc_new w _) j u hu
theorem k_str (hgd : o.guard = none) (s x : Operand) (ho : o.op = .call { callee := .builtin .append, args := #[s, x], argTypes := #[22, 9] })
    (h : KBuf B v l W0 w) (hs : a.eval s = v) (t : ByteArray) (hx : a.eval x = .string t) (hlen : l.length + t.size ≤ 140737488355328)
    (K : ∀ v' w', KBuf B v' (l ++ t.data.toList) W0 w' → wpList Ybad.prog ops Q rest (a.put o.dst v') w') : wpList Ybad.prog ops Q (o :: rest) a w := by
  obtain ⟨i, hi, hz, h1, h2⟩ := i5
  refine wpList_plain hgd fun K' hK' => ?_
  obtain ⟨v', w', hrun, r1, r2, _⟩ := run_append_own_string (P := Ybad.prog) w B 22 9 o.type 5 i Ybad.underlying22 Ybad.underlying9 hi hz h1 h2 v l.length (byteCells l) h.own t (by unfold maxLen; omega) hlen h.base
  unfold Oper.wp execOp
  simp only [ho, resolve, invoke, builtin, Sem.run_bind, Sem.run_pure, Result.andThen_ok, List.map_toArray, List.map_cons, List.map_nil, hs, hx, hrun]
  refine hK' _ _ (K v' w' (h.grown (l' := l ++ t.data.toList) ?_ r2))
  rw [List.length_append, byteCells_append, ← strCells_eq, Array.length_toList]
  exact r1
/-- the first append onto a full row: it grows, into a block of the call's own. -/
theorem k_full (hgd : o.guard = none) (s x : Operand) (ho : o.op = .call { callee := .builtin .append, args := #[s, x], argTypes := #[22, 22] })
    {ao : Option Addr} {n : Nat} (hs : a.eval s = .slice ao n n) (l : List UInt8) (hn : l.length = n) (hnone : ao = none → n = 0) (hc : ∀ b, ao = some b → ∀ j u, (byteCells l)[j]? = some u → w.cell? (b.add j) = some u)
    (m : List UInt8) {arr : Array Value} (harr : arr.toList = byteCells m) {k c : Nat} (hk : m.length = k) (hm : 0 < m.length) (hx : a.eval x = .slice (some ⟨w.heap.size, 0, none⟩) k c) (hlen : l.length + m.length ≤ 140737488355328)
    (K : ∀ v' w', KBuf w.heap.size v' (l ++ m) w w' → wpList Ybad.prog ops Q rest (a.put o.dst v') w') : wpList Ybad.prog ops Q (o :: rest) a (w.alloc (.cells arr 5)) := by
  subst hk
  subst hn
  obtain ⟨i, hi, hz, h1, h2⟩ := i5
  refine wpList_append_grows (w.alloc (.cells arr 5)) hgd s x 22 ho 5 i (.int .u8 0) 1 1 Ybad.underlying22 hi hz h1 h2 rfl (by decide) ao l.length l.length (byteCells l) hs (fun e => ⟨hnone e, hnone e⟩) (by simp [byteCells_length]) ?_ ⟨w.heap.size, 0, none⟩ m.length c (byteCells m) hx (by simp [byteCells_length]) ?_ (cells_one m) (by omega) (by unfold maxLen; omega) (by omega) ?_
  · intro b hb j u hu
    have h3 := hc b hb j u hu
    exact (World.cell?_of_block (Below.heap_alloc w _ _ (World.block_lt_of_cell? _ _ h3))).trans h3
  · intro j u hu
    rw [← harr] at hu
    exact World.news_of_block (w := w.alloc (.cells arr 5)) (cs := arr) (t := 5) (fr := (0, 0)) (heap_alloc_new w _) j u hu
  · intro v' w' ho' hg
    refine K v' w' ⟨?_, ?_, ?_, ?_⟩
    · rw [List.length_append, byteCells_append]
      refine ⟨ho'.1, ?_⟩
      rcases ho'.2 with h3 | ⟨g, cap, cur, e, r1, r2, r3⟩
      · exact Or.inl h3
      · exact Or.inr ⟨g, cap, cur, e, Nat.le_trans (by simp) r1, r2, r3⟩
    · exact (((Below.refl w.heap.size w).alloc (Nat.le_refl _) _)).grown hg (by simp) (fun k hk => by cases hk)
    · exact ((OthersKept.refl 5 none w).alloc _).grown hg (fun g hg' => by cases hg')
    · exact Nat.le_trans (by simp) hg.size
end
end
end Go.Proofs.YbulkgdyuDoor
