/-
  9054C, third text: the log (a counter and two slices, each behind a pointer), and the visit's stand-in that writes it.
-/
import Derived.Test.YbulkgemgDoorWalkA
import Derived.Deep.AppendLies
import Derived.Deep.RegionLaw
namespace Go.Proofs.YbulkgemgDoor
open Go.RowKit
set_option linter.unusedSimpArgs false
set_option linter.unusedVariables false

/-- what turned from w to w': at most the blocks of S, and new ones. -/
structure Fr (S : Nat → Prop) (w w' : World) : Prop where
  os : w'.os = w.os
  tape : w'.tape = w.tape
  output : w'.output = w.output
  size : w.heap.size ≤ w'.heap.size
  block : ∀ k, k < w.heap.size → ¬ S k → w'.heap[k]? = w.heap[k]?
section
variable {S T : Nat → Prop} {a b c w : World}
theorem Fr.refl (S : Nat → Prop) (w : World) : Fr S w w := ⟨rfl, rfl, rfl, Nat.le_refl _, fun _ _ _ => rfl⟩
theorem Fr.trans (h : Fr S a b) (k : Fr S b c) : Fr S a c :=
  ⟨k.os.trans h.os, k.tape.trans h.tape, k.output.trans h.output, Nat.le_trans h.size k.size, fun i hi hs => (k.block i (Nat.lt_of_lt_of_le hi h.size) hs).trans (h.block i hi hs)⟩
theorem Fr.mono (h : Fr S a b) (hs : ∀ k, k < a.heap.size → S k → T k) : Fr T a b := ⟨h.os, h.tape, h.output, h.size, fun i hi ht => h.block i hi fun hk => ht (hs i hi hk)⟩
/-- two steps, the second may turn what is new. -/
theorem Fr.next (h : Fr S a b) (k : Fr T b c) (hs : ∀ k, k < a.heap.size → T k → S k) : Fr S a c :=
  ⟨k.os.trans h.os, k.tape.trans h.tape, k.output.trans h.output, Nat.le_trans h.size k.size, fun i hi hn => (k.block i (Nat.lt_of_lt_of_le hi h.size) (fun ht => hn (hs i hi ht))).trans (h.block i hi hn)⟩
theorem Fr.alloc (h : Fr S a w) (o : Obj) : Fr S a (w.alloc o) := ⟨h.os, h.tape, h.output, Nat.le_trans h.size (by simp), fun i hi hs => (Below.heap_alloc w o i (Nat.lt_of_lt_of_le hi h.size)).trans (h.block i hi hs)⟩
theorem Fr.drew (h : Fr S a w) : Fr S a w.drew := ⟨h.os, h.tape, h.output, h.size, h.block⟩
theorem Fr.drewN (h : Fr S a w) (n : Nat) : Fr S a (w.drewN n) := ⟨h.os, h.tape, h.output, h.size, h.block⟩
theorem Fr.setCell (h : Fr S a w) {p : Addr} (hp : p.block < a.heap.size → S p.block) (u : Value) : Fr S a (w.setCell p u) :=
  ⟨h.os, h.tape, h.output, by simpa [World.setCell] using h.size, fun i hi hs => by
    have hne : i ≠ p.block := by rintro rfl; exact hs (hp hi)
    rw [Below.heap_setCell _ _ _ _ hne]; exact h.block i hi hs⟩
theorem Fr.grown (h : Fr S a w) {row : Option Nat} (hg : w.grownBy b row) (hr : ∀ k, row = some k → k < a.heap.size → S k) : Fr S a b :=
  ⟨hg.os.trans h.os, hg.tape.trans h.tape, hg.output.trans h.output, Nat.le_trans h.size hg.size, fun i hi hs => (hg.block i (Nat.lt_of_lt_of_le hi h.size) (fun e => hs (hr i e.symm hi))).trans (h.block i hi hs)⟩
theorem Fr.cell (h : Fr S a w) {p : Addr} (hp : p.block < a.heap.size) (hs : ¬ S p.block) : w.cell? p = a.cell? p := World.cell?_of_block (h.block _ hp hs)
theorem Fr.free (h : Fr S a w) {p : Addr} (hp : p.block < a.heap.size) (hs : ¬ S p.block) : w.frozen? p = a.frozen? p := World.frozen?_of_block (h.block _ hp hs)
theorem Fr.below (h : Fr S a w) {B : Nat} (hB : B ≤ a.heap.size) (hs : ∀ k, k < B → ¬ S k) : Below B a w := ⟨h.os, h.tape, h.output, h.size, fun k hk => h.block k (by omega) (hs k hk)⟩
end

/-- one slice of the log, behind a pointer to block b. -/
structure Half (w : World) (base b : Nat) (v : Value) (xs : List Value) : Prop where
  cell : w.heap[b]? = some (.cells #[v] 34 (0, 0))
  own : w.ownsRow base 3 1 v xs.length xs
  lt : b < base

section
variable {w : World} {base b : Nat} {v : Value} {xs : List Value}
theorem Half.at (h : Half w base b v xs) : w.cell? ⟨b, 0, none⟩ = some v := by simp [World.cell?, h.cell]
theorem Half.free (h : Half w base b v xs) : w.frozen? ⟨b, 0, none⟩ = false := by simp [World.frozen?, h.cell]
theorem Half.size (h : Half w base b v xs) : b < w.heap.size := (Array.getElem?_eq_some_iff.1 h.cell).1
theorem Half.kept {w' : World} {S : Nat → Prop} (h : Half w base b v xs) (f : Fr S w w') (h1 : ¬ S b) (h2 : ∀ k, v.ownBlock = some k → ¬ S k) : Half w' base b v xs := by
  refine ⟨(f.block b h.size h1).trans h.cell, ⟨h.own.1, ?_⟩, h.lt⟩
  rcases h.own.2 with h3 | ⟨g, cap, cur, rfl, r1, r2, r3⟩
  · exact Or.inl h3
  · exact Or.inr ⟨g, cap, cur, rfl, r1, (f.block g (Array.getElem?_eq_some_iff.1 r2).1 (h2 g rfl)).trans r2, r3⟩
end
/-- x = append(x, u), the store done. -/
theorem Half.push {w w1 w2 : World} {S : Nat → Prop} {base b : Nat} {v u v' : Value} {xs : List Value} (h : Half w base b v xs) (f : Fr S w w1) (hb : ¬ S b) (hg : w1.grownBy w2 v.ownBlock)
    (hv : ∀ k, v.ownBlock = some k → base ≤ k) (hown : w2.ownsRow base 3 1 v' (xs.length + 1) (xs ++ [u])) (hv' : ∀ k, v'.ownBlock = some k → base ≤ k) : Half (w2.setCell ⟨b, 0, none⟩ v') base b v' (xs ++ [u]) := by
  have hc : w2.heap[b]? = some (.cells #[v] 34 (0, 0)) := (hg.block b (Nat.lt_of_lt_of_le h.size f.size) (fun e => by have := hv b e.symm; have := h.lt; omega)).trans ((f.block b h.size hb).trans h.cell)
  refine ⟨by simp [World.setCell, Array.getElem?_modify, hc], ?_, h.lt⟩
  rw [List.length_append]
  exact ownsRow_setCell_below hown h.lt v'

theorem Half.block {w : World} {base b : Nat} {v : Value} {xs : List Value} (h : Half w base b v xs) : ∀ k, v.ownBlock = some k → base ≤ k ∧ k < w.heap.size := h.own.lt

structure LogAt (w : World) (base bK bN bI : Nat) (vN vI : Value) (L : Log) : Prop where
  k : w.heap[bK]? = some (.cells #[.int .i64 (L.length : Nat)] 3 (0, 0))
  n : Half w base bN vN (L.map fun p => .int .i64 (p.1 : Nat))
  i : Half w base bI vI (L.map fun p => .int .i64 (p.2 : Nat))
  lt : bK < base
  ne1 : bK ≠ bN
  ne2 : bK ≠ bI
  ne3 : bN ≠ bI
  apart : ∀ k, vN.ownBlock = some k → vI.ownBlock ≠ some k
def LogS (bK bN bI : Nat) (vN vI : Value) (k : Nat) : Prop := k = bK ∨ k = bN ∨ k = bI ∨ vN.ownBlock = some k ∨ vI.ownBlock = some k

theorem i0_3 : ∃ i0, Ybad.prog.info? 3 = some i0 ∧ i0.zero = some (.int .i64 0) ∧ i0.size = 1 ∧ i0.bytes = 8 := by
  have h : (Ybad.prog.info? 3).map (fun i => (i.zero, i.size, i.bytes)) = some (some (.int .i64 0), 1, 8) := by kernel_rfl
  cases e : Ybad.prog.info? 3 with
  | none => rw [e] at h; cases h
  | some i => rw [e] at h; simp at h; exact ⟨i, rfl, h.1, h.2.1, h.2.2⟩
/-- the one element of a new block. -/
theorem news_one (w : World) (u : Value) (e : TypeId) (hu : u.oneCell' = true) : ∀ j x, [u][j]? = some x → (w.alloc (.cells #[u] e)).cell? ((⟨w.heap.size, 0, none⟩ : Addr).add j) = some x :=
  World.news_of_block (w := w.alloc (.cells #[u] e)) (cs := #[u]) (t := e) (fr := (0, 0)) (heap_alloc_new w _)

theorem far_cell {w w1 : World} {o : Obj} {row : Option Nat} (hgr : ((w.alloc o).drew).grownBy w1 row) {b : Nat} (off : Nat) (hb : b < w.heap.size) (hne : ∀ k, row = some k → b < k) : w1.cell? ⟨b, off, none⟩ = w.cell? ⟨b, off, none⟩ :=
  (World.cell?_of_block (w := (w.alloc o).drew) (hgr.block b (by show b < (w.alloc o).heap.size; simp; omega) (fun e => by have := hne b e.symm; omega))).trans (World.cell?_of_block (Below.heap_alloc w o b hb))
theorem far_free {w w1 : World} {o : Obj} {row : Option Nat} (hgr : ((w.alloc o).drew).grownBy w1 row) {b : Nat} (off : Nat) (hb : b < w.heap.size) (hne : ∀ k, row = some k → b < k) : w1.frozen? ⟨b, off, none⟩ = w.frozen? ⟨b, off, none⟩ :=
  (World.frozen?_of_block (w := (w.alloc o).drew) (hgr.block b (by show b < (w.alloc o).heap.size; simp; omega) (fun e => by have := hne b e.symm; omega))).trans (World.frozen?_of_block (Below.heap_alloc w o b hb))
theorem set_far {w : World} {b c o o' : Nat} (u : Value) (h : b ≠ c) : (w.setCell ⟨c, o', none⟩ u).cell? ⟨b, o, none⟩ = w.cell? ⟨b, o, none⟩ := World.cell?_of_block (Below.heap_setCell w ⟨c, o', none⟩ u b h)
theorem far_cell' {w w1 : World} {o : Obj} {row : Option Nat} (hgr : (w.alloc o).grownBy w1 row) {b : Nat} (off : Nat) (hb : b < w.heap.size) (hne : ∀ k, row = some k → b < k) : w1.cell? ⟨b, off, none⟩ = w.cell? ⟨b, off, none⟩ :=
  (World.cell?_of_block (w := w.alloc o) (hgr.block b (by simp; omega) (fun e => by have := hne b e.symm; omega))).trans (World.cell?_of_block (Below.heap_alloc w o b hb))
theorem far_free' {w w1 : World} {o : Obj} {row : Option Nat} (hgr : (w.alloc o).grownBy w1 row) {b : Nat} (off : Nat) (hb : b < w.heap.size) (hne : ∀ k, row = some k → b < k) : w1.frozen? ⟨b, off, none⟩ = w.frozen? ⟨b, off, none⟩ :=
  (World.frozen?_of_block (w := w.alloc o) (hgr.block b (by simp; omega) (fun e => by have := hne b e.symm; omega))).trans (World.frozen?_of_block (Below.heap_alloc w o b hb))
theorem nat_is {a b : Nat} (h : ((a : Int) == (b : Int)) = true) : a = b := by
  have h' : (a : Int) = b := by simpa using h
  omega
theorem nat_not {a b : Nat} (h : ((a : Int) == (b : Int)) = false) : ¬ a = b := by
  have h' : ¬ (a : Int) = b := by simpa using h
  omega
theorem wrap_nat {k : Nat} (h : k ≤ 10000) : IntKind.i64.wrap (k : Int) = k := by rw [IntKind.wrap_i64]; omega

section
variable {w w2 : World} {base bK bN bI : Nat} {vN vI : Value} {L : Log}
theorem LogAt.i2 (hL : LogAt w base bK bN bI vN vI L) (hF : Fr (fun k => k = bN ∨ vN.ownBlock = some k) w w2) : Half w2 base bI vI (L.map fun p => .int .i64 (p.2 : Nat)) := by
  refine hL.i.kept hF ?_ ?_
  · rintro (h | h)
    · exact hL.ne3 h.symm
    · have := (hL.n.block _ h).1
      have := hL.i.lt
      omega
  · rintro k hk (h | h)
    · have := (hL.i.block _ hk).1
      have := hL.n.lt
      omega
    · exact hL.apart k h hk
theorem LogAt.cK (hL : LogAt w base bK bN bI vN vI L) : w.cell? ⟨bK, 0, none⟩ = some (.int .i64 (L.length : Nat)) := by simp [World.cell?, hL.k]
theorem LogAt.fK (hL : LogAt w base bK bN bI vN vI L) : w.frozen? ⟨bK, 0, none⟩ = false := by simp [World.frozen?, hL.k]
theorem LogAt.done {w3 : World} {g1 cap1 g2 cap2 v i : Nat} {o : Obj} (hL : LogAt w base bK bN bI vN vI L) (hbase : base ≤ w.heap.size)
    (hN : Half w2 base bN (.slice (some ⟨g1, 0, none⟩) (L.length + 1) cap1) ((L.map fun p => .int .i64 (p.1 : Nat)) ++ [.int .i64 (v : Nat)]))
    (hF : Fr (fun k => k = bN ∨ vN.ownBlock = some k) w w2) (hG : vN.ownBlock = some g1 ∨ w.heap.size ≤ g1)
    (hown : w3.ownsRow base 3 1 (.slice (some ⟨g2, 0, none⟩) (L.length + 1) cap2) (L.length + 1) ((L.map fun p => .int .i64 (p.2 : Nat)) ++ [.int .i64 (i : Nat)])) (hgr : (w2.alloc o).grownBy w3 vI.ownBlock) (hor : vI.ownBlock = some g2 ∨ g2 = (w2.alloc o).heap.size) :
    ∃ vN' vI', LogAt ((w3.setCell ⟨bI, 0, none⟩ (.slice (some ⟨g2, 0, none⟩) (L.length + 1) cap2)).setCell ⟨bK, 0, none⟩ (.int .i64 (L.length + 1))) base bK bN bI vN' vI' (L ++ [(v, i)]) ∧
      Fr (LogS bK bN bI vN vI) w ((w3.setCell ⟨bI, 0, none⟩ (.slice (some ⟨g2, 0, none⟩) (L.length + 1) cap2)).setCell ⟨bK, 0, none⟩ (.int .i64 (L.length + 1))) ∧
      (∀ k, vN'.ownBlock = some k → vN.ownBlock = some k ∨ w.heap.size ≤ k) ∧ (∀ k, vI'.ownBlock = some k → vI.ownBlock = some k ∨ w.heap.size ≤ k) := by
  have hi2 := hL.i2 hF
  have hsz : w2.heap.size ≤ (w2.alloc o).heap.size := by simp
  have lK := hL.lt
  have lN := hL.n.lt
  have lI := hL.i.lt
  have n1 := hL.ne1
  have n2 := hL.ne2
  have n3 := hL.ne3
  have s2 := hF.size
  have hg1 : base ≤ g1 ∧ g1 < w2.heap.size := hN.block g1 rfl
  have hg2 : base ≤ g2 ∧ g2 < w3.heap.size := hown.lt g2 rfl
  have hI1 : ∀ k, vI.ownBlock = some k → k ≠ g1 := by
    rintro k hk rfl
    rcases hG with h | h
    · exact hL.apart k h hk
    · have := (hL.i.block k hk).2
      omega
  have hg12 : g1 ≠ g2 := by
    rcases hor with h | h
    · exact fun e => hI1 g2 h e.symm
    · omega
  -- the frame, step by step
  have f3 : Fr (fun k => vI.ownBlock = some k) w2 w3 := ((Fr.refl _ w2).alloc o).grown hgr (fun k hk _ => hk)
  have f4 : Fr (fun k => k = bK ∨ k = bI ∨ vI.ownBlock = some k) w2 ((w3.setCell ⟨bI, 0, none⟩ (.slice (some ⟨g2, 0, none⟩) (L.length + 1) cap2)).setCell ⟨bK, 0, none⟩ (.int .i64 (L.length + 1))) :=
    ((f3.mono (T := fun k => k = bK ∨ k = bI ∨ vI.ownBlock = some k) (fun _ _ h => Or.inr (Or.inr h))).setCell (p := ⟨bI, 0, none⟩) (fun _ => Or.inr (Or.inl rfl)) _).setCell (p := ⟨bK, 0, none⟩) (fun _ => Or.inl rfl) _
  have hp := hi2.push (S := fun _ => False) (u := .int .i64 (i : Nat)) (v' := .slice (some ⟨g2, 0, none⟩) (L.length + 1) cap2) ((Fr.refl _ w2).alloc o) (by simp) hgr (fun k hk => (hL.i.block k hk).1) (by simpa using hown) (fun k hk => by cases hk; exact hg2.1)
  have hp' := hp.kept (S := fun k => k = bK) ((Fr.refl (fun k => k = bK) _).setCell (p := ⟨bK, 0, none⟩) (fun _ => rfl) (.int .i64 (L.length + 1))) (fun h => n2 h.symm) (fun k hk => by cases hk; intro h; have h' : g2 = bK := h; omega)
  have hn' := hN.kept f4 (by rintro (h | h | h); exact n1 h.symm; exact n3 h; have := (hL.i.block _ h).1; omega)
    (fun k hk => by
      obtain rfl : g1 = k := Option.some.inj hk
      rintro (h | h | h)
      · omega
      · omega
      · exact hI1 _ h rfl)
  have hkb : w3.heap[bK]? = some (.cells #[.int .i64 (L.length : Nat)] 3 (0, 0)) := by
    have l2 : bK < w2.heap.size := by omega
    rw [f3.block bK l2 (fun h => by have := (hL.i.block _ h).1; omega), hF.block bK (by omega) (by rintro (h | h); exact n1 h; have := (hL.n.block _ h).1; omega)]
    exact hL.k
  refine ⟨_, _, ⟨?_, by simpa using hn', by simpa using hp', lK, n1, n2, n3, ?_⟩, ?_, ?_, ?_⟩
  · have : (w3.setCell ⟨bI, 0, none⟩ (.slice (some ⟨g2, 0, none⟩) (L.length + 1) cap2)).heap[bK]? = some (.cells #[.int .i64 (L.length : Nat)] 3 (0, 0)) := by
      rw [Below.heap_setCell _ _ _ _ n2]; exact hkb
    simp [World.setCell, Array.getElem?_modify] at this ⊢
    rw [if_neg (fun h => n2 h.symm)] at this ⊢
    simp [this]
  · intro k h1 h2
    cases h1
    cases h2
    exact hg12 rfl
  · refine (hF.mono (T := LogS bK bN bI vN vI) ?_).next f4 ?_
    · rintro k _ (h | h)
      · exact Or.inr (Or.inl h)
      · exact Or.inr (Or.inr (Or.inr (Or.inl h)))
    · rintro k _ (h | h | h)
      · exact Or.inl h
      · exact Or.inr (Or.inr (Or.inl h))
      · exact Or.inr (Or.inr (Or.inr (Or.inr h)))
  · intro k hk; cases hk; exact hG
  · intro k hk
    obtain rfl : g2 = k := Option.some.inj hk
    exact hor.imp id (fun h => by omega)
end

theorem LogAt.low {w w2 w3 : World} {base bK bN bI top : Nat} {vN vI : Value} {L : Log} {o : Obj} (hL : LogAt w base bK bN bI vN vI L) (hbase : base ≤ w.heap.size) (hF : Fr (fun k => k = bN ∨ vN.ownBlock = some k) w w2) (hgr : (w2.alloc o).grownBy w3 vI.ownBlock) (t1 : top ≤ bK) (t2 : top ≤ bN) (t3 : top ≤ bI) :
    (∀ k, k < top ∨ k = bK → w3.heap[k]? = w.heap[k]?) := by
  intro k hk
  have lK := hL.lt
  have lN := hL.n.lt
  have n1 := hL.ne1
  have n2 := hL.ne2
  have s2 := hF.size
  have f3 : Fr (fun k => vI.ownBlock = some k) w2 w3 := ((Fr.refl _ w2).alloc o).grown hgr (fun k hk _ => hk)
  rw [f3.block k (by omega) (fun h => by have := (hL.i.block _ h).1; omega), hF.block k (by omega) (by rintro (h | h); omega; have := (hL.n.block _ h).1; omega)]

set_option maxHeartbeats 1000000 in
theorem visit_any (w : World) (base bK bN bI bA bS nd top v i : Nat) (vN vI av sV gV : Value) (A : Nat → Nat) (L : Log)
    (hL : LogAt w base bK bN bI vN vI L) (hnd : w.cell? ⟨nd, 2, none⟩ = some (.int .i32 (v : Nat))) (hv : v ≤ 5000) (hi : i ≤ 5000) (hlen : L.length ≤ 10000)
    (hA : w.cell? ⟨bA, 0, none⟩ = some av) (hAc : ActsAt w top av A) (hS : w.cell? ⟨bS, 0, none⟩ = some sV) (hG : w.cell? ⟨0, 0, none⟩ = some gV)
    (t1 : top ≤ bK) (t2 : top ≤ bN) (t3 : top ≤ bI) (t4 : nd < top) (t5 : bA < top) (t6 : bS < top) (t7 : 0 < top) (hbase : base ≤ w.heap.size) :
    Calls Ybad.prog 5 #[.pointer (some ⟨nd, 0, none⟩), .int .i64 i, .pointer (some ⟨bN, 0, none⟩), .pointer (some ⟨bI, 0, none⟩), .pointer (some ⟨bA, 0, none⟩), .pointer (some ⟨bK, 0, none⟩), .pointer (some ⟨bS, 0, none⟩)] w
      fun e w' => e = .returned (if A L.length = 3 then gV else if A L.length = 4 then sV else .nilIface) ∧
        ∃ vN' vI', LogAt w' base bK bN bI vN' vI' (L ++ [(v, i)]) ∧ Fr (LogS bK bN bI vN vI) w w' ∧ (∀ k, vN'.ownBlock = some k → vN.ownBlock = some k ∨ w.heap.size ≤ k) ∧ (∀ k, vI'.ownBlock = some k → vI.ownBlock = some k ∨ w.heap.size ≤ k) := by
  obtain ⟨i0, hi0, hz, hz1, hz2⟩ := i0_3
  have cN := hL.n.at
  have fN := hL.n.free
  have lN := hL.n.size
  have ne0 := World.new_ne w _ hnd
  have ne1 := World.new_ne w _ cN
  have HL := keep hL
  have HAc := keep hAc
  have d1 : bA ≠ bI := by omega
  have d2 : bK ≠ bI := hL.ne2
  have d3 : bS ≠ bI := by omega
  have d4 : bS ≠ bK := by omega
  have d5 : 0 ≠ bI := by omega
  have d6 : 0 ≠ bK := by omega
  have d7 : bI ≠ 0 := by omega
  have d8 : bK ≠ 0 := by omega
  clear hL hAc
  generalize hr : (if A L.length = 3 then gV else if A L.length = 4 then sV else .nilIface) = r
  have HR := keep hr
  clear hr
  go_enter Ybad.func5, Ybad.ntmps5
  go_wp2_with fail
  have hown0 : ∀ u, ((w.alloc (.cells #[u] 3)).drew).ownsRow base 3 1 vN L.length (L.map fun p => .int .i64 (p.1 : Nat)) := fun u => by
    have := HL.out.n.own
    rw [List.length_map] at this
    exact this.alloc _
  have hblk : ∀ k, vN.ownBlock = some k → bN < k := fun k hk => by have := (HL.out.n.block k hk).1; have := HL.out.n.lt; omega
  have hblk' : ∀ k, vN.ownBlock = some k → nd < k := fun k hk => by have := hblk k hk; omega
  have HO := keep hown0
  have HK := keep (And.intro hblk hblk')
  clear hown0 hblk hblk'
  have hndl : nd < w.heap.size := by omega
  have hnb : nd ≠ bN := by omega
  go_region_law
    (first | (refine step_append_lies _ rfl (.tmp 11) (.tmp 18) 34 rfl base 3 i0 (.int .i64 0) 1 8 Ybad.underlying34 hi0 hz hz1 hz2 rfl (by decide) vN L.length (L.map fun p => .int .i64 (p.1 : Nat)) rfl (by exact HO.out _) ⟨w.heap.size, 0, none⟩ 1 1 [.int .i64 (IntKind.i64.wrap (v : Nat))] rfl rfl (by exact news_one w _ 3 rfl) (by intro u hu; rw [List.mem_singleton.1 hu]; rfl) (by decide) (by simp only [maxLen]; omega) (by omega) (by simp; omega) _ rfl ?_; intro g1 cap1 w1 hown1 hgr1 hor1 hlt1; have c1 := (far_cell hgr1 0 lN HK.out.1).trans cN; have f1 := (far_free hgr1 0 lN HK.out.1).trans fN))
  all_goals
    have HN2 := keep (HL.out.n.push (S := fun _ => False) (u := .int .i64 (v : Nat)) (v' := .slice (some ⟨g1, 0, none⟩) (L.length + 1) cap1) (((Fr.refl _ w).alloc _).drew) (by simp) hgr1 (fun k hk => (HL.out.n.block k hk).1)
      (by have := hown1; rw [wrap_nat (by omega)] at this; simpa using this) (fun k hk => (hown1.lt k hk).1))
    have HF2 := keep (((Fr.refl (fun k => k = bN ∨ vN.ownBlock = some k) w).alloc _).drew.grown hgr1 (fun k hk _ => Or.inr hk) |>.setCell (p := ⟨bN, 0, none⟩) (fun _ => Or.inl rfl) (.slice (some ⟨g1, 0, none⟩) (L.length + 1) cap1))
    have HG1 := keep (show vN.ownBlock = some g1 ∨ w.heap.size ≤ g1 from hor1.imp id (fun e => by rw [e]; show w.heap.size ≤ (w.alloc _).heap.size; simp))
    clear c1 f1 hlt1 hor1 hgr1 hown1
    generalize w1.setCell ⟨bN, 0, none⟩ (.slice (some ⟨g1, 0, none⟩) (L.length + 1) cap1) = w2 at HN2 HF2 ⊢
    have HI2 := keep (HL.out.i2 HF2.out)
    have cI := HI2.out.at
    have fI := HI2.out.free
    have lI := HI2.out.size
    have ne2 := World.new_ne w2 _ cI
    have hb2 : base ≤ w2.heap.size := Nat.le_trans hbase HF2.out.size
    have HO2 := keep (show ∀ u, (w2.alloc (.cells #[u] 3)).ownsRow base 3 1 vI L.length (L.map fun p => .int .i64 (p.2 : Nat)) from fun u => by
      have := HI2.out.own
      rw [List.length_map] at this
      exact this.alloc _)
    have HK2 := keep (show ∀ k, vI.ownBlock = some k → bI < k from fun k hk => by have := (HI2.out.block k hk).1; have := HI2.out.lt; omega)
    clear cN fN lN ne0 ne1 hnd
    go_wp2_with (first | (at_builtin; refine wpList_append_lies _ rfl (.tmp 20) (.tmp 22) 34 rfl base 3 i0 (.int .i64 0) 1 8 Ybad.underlying34 hi0 hz hz1 hz2 rfl (by decide) vI L.length (L.map fun p => .int .i64 (p.2 : Nat)) rfl (by exact HO2.out _) ⟨w2.heap.size, 0, none⟩ 1 1 [.int .i64 (i : Nat)] rfl rfl (by exact news_one w2 _ 3 rfl) (by intro u hu; rw [List.mem_singleton.1 hu]; rfl) (by decide) (by simp only [maxLen]; omega) (by omega) (by simp; omega) _ rfl ?_; intro g2 cap2 w3 hown2 hgr2 hor2 hlt2; have c2 := (far_cell' hgr2 0 lI HK2.out).trans cI; have f2 := (far_free' hgr2 0 lI HK2.out).trans fI; have HLow := keep (HL.out.low hbase HF2.out hgr2 t1 t2 t3); have cA := (World.cell?_of_block (a := ⟨bA, 0, none⟩) (HLow.out bA (Or.inl t5))).trans hA; have cS := (World.cell?_of_block (a := ⟨bS, 0, none⟩) (HLow.out bS (Or.inl t6))).trans hS; have cG := (World.cell?_of_block (a := ⟨0, 0, none⟩) (HLow.out 0 (Or.inl t7))).trans hG; have cK := (World.cell?_of_block (a := ⟨bK, 0, none⟩) (HLow.out bK (Or.inr rfl))).trans HL.out.cK; have fK := (World.frozen?_of_block (a := ⟨bK, 0, none⟩) (HLow.out bK (Or.inr rfl))).trans HL.out.fK) | (go_at_call 6; refine (act_any (HAc.out.below fun k hk => by rw [Below.heap_setCell _ _ _ _ (by show k ≠ bI; omega)]; exact HLow.out k (Or.inl hk)) L.length (by simp only [maxLen]; omega)).mono ?_; rintro e w5 ⟨rfl, rfl⟩))
    all_goals
      go_ret
      refine ⟨?_, HL.out.done hbase HN2.out HF2.out HG1.out hown2 hgr2 hor2⟩
      rw [← HR.out]
      first
        | (rw [if_pos (nat_is ‹(((A L.length : Nat) : Int) == 3) = true›)]; rfl)
        | (rw [if_neg (nat_not ‹(((A L.length : Nat) : Int) == 3) = false›), if_pos (nat_is ‹(((A L.length : Nat) : Int) == 4) = true›)]; rfl)
        | (rw [if_neg (nat_not ‹(((A L.length : Nat) : Int) == 3) = false›), if_neg (nat_not ‹(((A L.length : Nat) : Int) == 4) = false›)]; rfl)
end Go.Proofs.YbulkgemgDoor
