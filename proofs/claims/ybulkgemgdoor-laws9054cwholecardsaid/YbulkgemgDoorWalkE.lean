/-
  9054C, sixth text: the law: the building of nodes, operands' lists, Args.
-/
import Derived.Test.YbulkgemgDoorWalkD
import Derived.Deep.OwnRows
namespace Go.Proofs.YbulkgemgDoor
open Go.RowKit
set_option linter.unusedSimpArgs false
set_option linter.unusedVariables false

/-- what the walk is told of the parents' slice. -/
def ParAt (w : World) (a : Option Addr) (N : Nat) (P : Nat → Nat) : Prop :=
  (∀ j, P j ≤ 65535) ∧ (0 < N → ∃ b off, a = some ⟨b, off, none⟩ ∧ b < w.heap.size ∧ ∀ j, j < N → w.cell? ⟨b, off + j, none⟩ = some (.int .u16 (P j : Nat)))
theorem ParAt.below {w w' : World} {a : Option Addr} {N : Nat} {P : Nat → Nat} (h : ParAt w a N P) (hb : Below w.heap.size w w') : ParAt w' a N P := by
  refine ⟨h.1, fun hN => ?_⟩
  obtain ⟨b, off, e, hl, hc⟩ := h.2 hN
  exact ⟨b, off, e, Nat.lt_of_lt_of_le hl hb.size, fun j hj => (World.cell?_of_block (hb.block b hl)).trans (hc j hj)⟩

theorem info26 : (Ybad.prog.info? 26).map (fun i => (i.zero, i.size, i.bytes)) = some (some (.pointer none), 1, 8) := by kernel_rfl
theorem info34 : (Ybad.prog.info? 34).map (fun i => (i.zero, i.size, i.bytes)) = some (some (.slice none 0 0), 1, 24) := by kernel_rfl

set_option maxRecDepth 100000 in
theorem law_big {a0 a1 : Option Addr} {N c0 l1 c1 : Nat} (w : World) (h : (4096 : Int) < N ∨ (1048576 : Int) < l1) :
    Calls Ybad.prog 3 #[.slice a0 N c0, .slice a1 l1 c1] w fun e w' => e = .returned (.bool true) ∧ Below w.heap.size w w' := by
  by_cases h1 : (4096 : Int) < N
  · go_enter Ybad.func3, Ybad.ntmps3
    go_wp2_with fail
    go_ret
    exact ⟨rfl, (Below.refl _ w).alloc (Nat.le_refl _) _⟩
  · have h2 : (1048576 : Int) < l1 := by omega
    clear h
    go_enter Ybad.func3, Ybad.ntmps3
    go_wp2_with fail
    go_ret
    exact ⟨rfl, (Below.refl _ w).alloc (Nat.le_refl _) _⟩

/-- the nodes as they are laid first. -/
structure Laid1 (w wr : World) (n j gN gC h0 : Nat) (av : Value) : Prop where
  bel : Below w.heap.size w wr
  acts : wr.heap[w.heap.size]? = some (.cells #[av] 23 (0, 0))
  nodes : wr.rowIs gN 26 n (fun v => if v < j then .pointer (some ⟨h0 + v, 0, none⟩) else .pointer none)
  chs : wr.rowIs gC 34 n (fun _ => .slice none 0 0)
  size : wr.heap.size = h0 + j
  node : ∀ v, v < j → wr.heap[h0 + v]? = some (.cells (nodeOf v none 0 0) 32 (0, 0))

theorem laid1_start (w : World) (n : Nat) (av : Value) : Laid1 w (((w.alloc (.cells #[av] 23)).alloc (.cells (madeCells #[.pointer none] n) 26)).alloc (.cells (madeCells #[.slice none 0 0] n) 34)) n 0 (w.heap.size + 1) (w.heap.size + 1 + 1) (w.heap.size + 3) av := by
  have s1 : (w.alloc (.cells #[av] 23)).heap.size = w.heap.size + 1 := by simp
  have s2 : ((w.alloc (.cells #[av] 23)).alloc (.cells (madeCells #[.pointer none] n) 26)).heap.size = w.heap.size + 1 + 1 := by simp
  refine ⟨(((Below.refl _ w).alloc (Nat.le_refl _) _).alloc (by omega) _).alloc (by omega) _, ?_, ?_, ?_, by simp, fun v hv => by omega⟩
  · rw [Below.heap_alloc _ _ _ (by omega), Below.heap_alloc _ _ _ (by omega)]
    exact heap_alloc_new w _
  · have h := World.rowIs_made (w.alloc (.cells #[av] 23)) (.pointer none) n 26
    rw [s1] at h
    exact (h.alloc _).congr (fun i _ => by simp)
  · have h := World.rowIs_made ((w.alloc (.cells #[av] 23)).alloc (.cells (madeCells #[.pointer none] n) 26)) (.slice none 0 0) n 34
    rw [s2] at h
    exact h
theorem laid1_step {w wr : World} {n j : Nat} {av : Value} (h : Laid1 w wr n j (w.heap.size + 1) (w.heap.size + 1 + 1) (w.heap.size + 3) av) (hj : j < n) :
    Laid1 w ((wr.setCell ⟨w.heap.size + 1, j, none⟩ (.pointer (some ⟨wr.heap.size, 0, none⟩))).alloc (.cells (nodeOf j none 0 0) 32)) n (j + 1) (w.heap.size + 1) (w.heap.size + 1 + 1) (w.heap.size + 3) av := by
  have hs := h.size
  have s1 : (wr.setCell ⟨w.heap.size + 1, j, none⟩ (.pointer (some ⟨wr.heap.size, 0, none⟩))).heap.size = wr.heap.size := by simp [World.setCell]
  refine ⟨(h.bel.setCell (p := ⟨w.heap.size + 1, j, none⟩) (by show w.heap.size ≤ w.heap.size + 1; omega) _).alloc (by omega) _, ?_, ?_, ?_, ?_, ?_⟩
  · rw [Below.heap_alloc _ _ _ (by omega), Below.heap_setCell _ _ _ _ (by show w.heap.size ≠ w.heap.size + 1; omega)]
    exact h.acts
  · refine ((h.nodes.set j _).alloc _).congr fun i _ => ?_
    by_cases e : i = j
    · subst e; rw [if_pos rfl, if_pos (by omega), hs]
    · rw [if_neg e]
      by_cases e2 : i < j
      · rw [if_pos e2, if_pos (by omega)]
      · rw [if_neg e2, if_neg (by omega)]
  · exact (h.chs.setOther (by show w.heap.size + 1 + 1 ≠ w.heap.size + 1; omega) _).alloc _
  · simp [World.setCell, hs]; omega
  · intro v hv
    by_cases e : v = j
    · have e1 := heap_alloc_new (wr.setCell ⟨w.heap.size + 1, j, none⟩ (.pointer (some ⟨wr.heap.size, 0, none⟩))) (.cells (nodeOf j none 0 0) 32)
      rw [s1, hs] at e1
      rw [e, hs]
      exact e1
    · rw [Below.heap_alloc _ _ _ (by omega), Below.heap_setCell _ _ _ _ (by show w.heap.size + 3 + v ≠ w.heap.size + 1; omega)]
      exact h.node v (by omega)

/-- the operands' lists, j parents read. -/
structure Laid2 (w wr : World) (n j gN gC h0 : Nat) (av : Value) (par : Nat → Nat) (cs : Nat → Value) : Prop where
  bel : Below w.heap.size w wr
  acts : wr.heap[w.heap.size]? = some (.cells #[av] 23 (0, 0))
  nodes : wr.rowIs gN 26 n (fun v => .pointer (some ⟨h0 + v, 0, none⟩))
  size : h0 + n ≤ wr.heap.size
  node : ∀ v, v < n → wr.heap[h0 + v]? = some (.cells (nodeOf v none 0 0) 32 (0, 0))
  chs : wr.rowIs gC 34 n cs
  own : ∀ v, v < n → wr.ownsRow (h0 + n) 3 1 (cs v) (kids par j v).length ((kids par j v).map fun c => .int .i64 (c : Nat))
  apart : ∀ u v, u < n → v < n → u ≠ v → ∀ k, (cs u).ownBlock = some k → (cs v).ownBlock ≠ some k
theorem laid2_start {w wr : World} {n : Nat} {av : Value} (par : Nat → Nat) (h : Laid1 w wr n n (w.heap.size + 1) (w.heap.size + 1 + 1) (w.heap.size + 3) av) :
    Laid2 w wr n 0 (w.heap.size + 1) (w.heap.size + 1 + 1) (w.heap.size + 3) av par (fun _ => .slice none 0 0) :=
  ⟨h.bel, h.acts, h.nodes.congr (fun i hi => by rw [if_pos hi]), by rw [h.size]; exact Nat.le_refl _, h.node, h.chs, fun v _ => World.ownsRow_nil wr _ 3 1, fun u v _ _ _ k hk => by cases hk⟩
theorem laid2_step {w wr w1 : World} {n j p g1 cap1 : Nat} {av : Value} {par : Nat → Nat} {cs : Nat → Value} {o : Obj} (h : Laid2 w wr n j (w.heap.size + 1) (w.heap.size + 1 + 1) (w.heap.size + 3) av par cs) (hp : par j = p) (hpn : p < n)
    (hown : w1.ownsRow (w.heap.size + 3 + n) 3 1 (.slice (some ⟨g1, 0, none⟩) ((kids par j p).length + 1) cap1) ((kids par j p).length + 1) (((kids par j p).map fun c => .int .i64 (c : Nat)) ++ [.int .i64 ((j : Int) + 1)]))
    (hgr : (wr.alloc o).grownBy w1 (cs p).ownBlock) (hor : (cs p).ownBlock = some g1 ∨ g1 = (wr.alloc o).heap.size) :
    Laid2 w (w1.setCell ⟨w.heap.size + 1 + 1, p, none⟩ (.slice (some ⟨g1, 0, none⟩) ((kids par j p).length + 1) cap1)) n (j + 1) (w.heap.size + 1) (w.heap.size + 1 + 1) (w.heap.size + 3) av par (fun v => if v = p then .slice (some ⟨g1, 0, none⟩) ((kids par j p).length + 1) cap1 else cs v) := by
  have hs := h.size
  have hrow : ∀ k, (cs p).ownBlock = some k → w.heap.size + 3 + n ≤ k ∧ k < wr.heap.size := (h.own p hpn).lt
  have f1 : Fr (fun k => (cs p).ownBlock = some k) wr w1 := ((Fr.refl _ wr).alloc o).grown hgr (fun k hk _ => hk)
  have f2 : Fr (fun k => k = w.heap.size + 1 + 1 ∨ (cs p).ownBlock = some k) wr (w1.setCell ⟨w.heap.size + 1 + 1, p, none⟩ (.slice (some ⟨g1, 0, none⟩) ((kids par j p).length + 1) cap1)) :=
    (f1.mono (T := fun k => k = w.heap.size + 1 + 1 ∨ (cs p).ownBlock = some k) (fun _ _ h => Or.inr h)).setCell (p := ⟨w.heap.size + 1 + 1, p, none⟩) (fun _ => Or.inl rfl) _
  have keepb : ∀ k, k < w.heap.size + 3 + n → k ≠ w.heap.size + 1 + 1 → (w1.setCell ⟨w.heap.size + 1 + 1, p, none⟩ (.slice (some ⟨g1, 0, none⟩) ((kids par j p).length + 1) cap1)).heap[k]? = wr.heap[k]? :=
    fun k hk hne => f2.block k (by omega) (by rintro (h | h); exact hne h; have := (hrow k h).1; omega)
  have hsz : wr.heap.size ≤ (wr.alloc o).heap.size := by simp
  have hg1 : w.heap.size + 3 + n ≤ g1 ∧ g1 < w1.heap.size := hown.lt g1 rfl
  have hother : ∀ u, u < n → u ≠ p → ∀ k, (cs u).ownBlock = some k → k ≠ g1 := by
    rintro u hu hne k hk rfl
    rcases hor with e | e
    · exact h.apart p u hpn hu (fun e => hne e.symm) k e hk
    · have := ((h.own u hu).lt k hk).2; omega
  refine ⟨h.bel.trans (f2.below (by omega) (fun k hk => ?_)), (keepb _ (by omega) (by omega)).trans h.acts, h.nodes.of_block (keepb _ (by omega) (by omega)), Nat.le_trans hs f2.size, fun v hv => (keepb _ (by omega) (by omega)).trans (h.node v hv), ?_, ?_, ?_⟩
  · rintro (e | e)
    · omega
    · have := (hrow k e).1; omega
  · have hc : w1.rowIs (w.heap.size + 1 + 1) 34 n cs := h.chs.of_block (f1.block _ (by omega) (fun e => by have := (hrow _ e).1; omega))
    exact (hc.set p _).congr (fun i _ => rfl)
  · intro v hv
    by_cases e : v = p
    · subst e
      rw [if_pos rfl, kids_succ, if_pos hp, List.map_append, List.length_append]
      exact ownsRow_setCell_below hown (by show w.heap.size + 1 + 1 < _; omega) _
    · rw [if_neg e, kids_succ, if_neg (fun e' => e (e'.symm.trans hp))]
      have ho := h.own v hv
      refine ⟨ho.1, ?_⟩
      rcases ho.2 with h3 | ⟨g, cap, cur, e3, r1, r2, r3⟩
      · exact Or.inl h3
      · have hgb : (cs v).ownBlock = some g := by rw [e3]; rfl
        exact Or.inr ⟨g, cap, cur, e3, r1, (f2.block g (ho.lt g hgb).2 (by rintro (e | e'); omega; exact h.apart p v hpn hv (fun x => e x.symm) g e' hgb)).trans r2, r3⟩
  · intro u v hu hv hne k h1 h2
    by_cases eu : u = p
    · rw [if_pos eu] at h1
      rw [if_neg (fun e => hne (eu.trans e.symm))] at h2
      exact hother v hv (fun e => hne (eu.trans e.symm)) k h2 (Option.some.inj h1).symm
    · rw [if_neg eu] at h1
      by_cases ev : v = p
      · rw [if_pos ev] at h2
        exact hother u hu eu k h1 (Option.some.inj h2).symm
      · rw [if_neg ev] at h2
        exact h.apart u v hu hv hne k h1 h2

theorem laid2_cell {w wr w1 : World} {n j p : Nat} {av : Value} {par : Nat → Nat} {cs : Nat → Value} {o : Obj} (h : Laid2 w wr n j (w.heap.size + 1) (w.heap.size + 1 + 1) (w.heap.size + 3) av par cs) (hpn : p < n)
    (hgr : (wr.alloc o).grownBy w1 (cs p).ownBlock) : w1.cell? ⟨w.heap.size + 1 + 1, p, none⟩ = some (cs p) ∧ w1.frozen? ⟨w.heap.size + 1 + 1, p, none⟩ = false := by
  have b2 : ∀ k, (cs p).ownBlock = some k → w.heap.size + 1 + 1 < k := fun k hk => by have := ((h.own p hpn).lt k hk).1; omega
  exact ⟨(far_cell' hgr p h.chs.lt b2).trans (h.chs.cell hpn), (far_free' hgr p h.chs.lt b2).trans (h.chs.frozen p)⟩

theorem own_form {w : World} {base n : Nat} {v : Value} {xs : List Value} (h : w.ownsRow base 3 1 v n xs) : ∃ (a : Option Addr) (cap : Nat), v = .slice a n cap ∧ ∀ i, i < n → ∃ b, a = some ⟨b, 0, none⟩ ∧ base ≤ b ∧ b < w.heap.size ∧ w.cell? ⟨b, i, none⟩ = xs[i]? := by
  have hl := h.lt
  rcases h.2 with ⟨rfl, rfl⟩ | ⟨g, cap, cur, rfl, r1, r2, r3, r4, r5, r6⟩
  · exact ⟨none, 0, rfl, fun i hi => by omega⟩
  · refine ⟨some ⟨g, 0, none⟩, cap, rfl, fun i hi => ⟨g, rfl, (hl g rfl).1, (hl g rfl).2, ?_⟩⟩
    rw [← r6, List.getElem?_take, if_pos (by omega)]
    simp [World.cell?, r2]
theorem own_kept {w w' : World} {S : Nat → Prop} {base n : Nat} {v : Value} {xs : List Value} (h : w.ownsRow base 3 1 v n xs) (f : Fr S w w') (hs : ∀ k, v.ownBlock = some k → ¬ S k) : w'.ownsRow base 3 1 v n xs := by
  have hl := h.lt
  refine ⟨h.1, ?_⟩
  rcases h.2 with h1 | ⟨g, cap, cur, rfl, r1, r2, r3⟩
  · exact Or.inl h1
  · exact Or.inr ⟨g, cap, cur, rfl, r1, (f.block g (hl g rfl).2 (hs g rfl)).trans r2, r3⟩

/-- Args laid for the nodes below v. -/
structure Laid3 (w wr : World) (n v gN gC h0 : Nat) (av : Value) (C : Nat → List Nat) (cs : Nat → Value) : Prop where
  bel : Below w.heap.size w wr
  acts : wr.heap[w.heap.size]? = some (.cells #[av] 23 (0, 0))
  nodes : wr.rowIs gN 26 n (fun v => .pointer (some ⟨h0 + v, 0, none⟩))
  size : h0 + n ≤ wr.heap.size
  chs : wr.rowIs gC 34 n cs
  own : ∀ v, v < n → wr.ownsRow (h0 + n) 3 1 (cs v) (C v).length ((C v).map fun c => .int .i64 (c : Nat))
  done : ∀ u, u < v → u < n → ∃ (a : Option Addr) (cap : Nat), wr.heap[h0 + u]? = some (.cells (nodeOf u a (C u).length cap) 32 (0, 0)) ∧
    ∀ i (h : i < (C u).length), ∃ b, a = some ⟨b, 0, none⟩ ∧ h0 + n ≤ b ∧ b < wr.heap.size ∧ wr.cell? ⟨b, i, none⟩ = some (.pointer (some ⟨h0 + (C u)[i], 0, none⟩))
  todo : ∀ u, v ≤ u → u < n → wr.heap[h0 + u]? = some (.cells (nodeOf u none 0 0) 32 (0, 0))
theorem laid3_start {w wr : World} {n j gN gC h0 : Nat} {av : Value} {par : Nat → Nat} {cs : Nat → Value} (h : Laid2 w wr n j gN gC h0 av par cs) : Laid3 w wr n 0 gN gC h0 av (kids par j) cs :=
  ⟨h.bel, h.acts, h.nodes, h.size, h.chs, h.own, fun u hu => by omega, fun u _ hu => h.node u hu⟩
theorem laid3_skip {w wr : World} {n v gN gC h0 : Nat} {av : Value} {C : Nat → List Nat} {cs : Nat → Value} (h : Laid3 w wr n v gN gC h0 av C cs) (hv : v < n) (hz : (C v).length = 0) : Laid3 w wr n (v + 1) gN gC h0 av C cs :=
  ⟨h.bel, h.acts, h.nodes, h.size, h.chs, h.own, fun u hu hn => by
    by_cases e : u = v
    · subst e
      exact ⟨none, 0, by rw [hz]; exact h.todo u (Nat.le_refl _) hn, fun i hi => by omega⟩
    · exact h.done u (by omega) hn, fun u hu hn => h.todo u (by omega) hn⟩
theorem laid3_step {w wr w2 : World} {n v h0 : Nat} {av : Value} {C : Nat → List Nat} {cs : Nat → Value} (h : Laid3 w wr n v (w.heap.size + 1) (w.heap.size + 1 + 1) h0 av C cs) (hv : v < n) (hh0 : h0 = w.heap.size + 3) (o : Obj)
    (f : Fr (fun k => k = wr.heap.size) wr w2) (hrow : w2.rowIs wr.heap.size 26 (C v).length (fun i => .pointer (some ⟨h0 + (C v).getD i 0, 0, none⟩))) :
    Laid3 w (w2.setCell ⟨h0 + v, 4, none⟩ (.slice (some ⟨wr.heap.size, 0, none⟩) (C v).length (C v).length)) n (v + 1) (w.heap.size + 1) (w.heap.size + 1 + 1) h0 av C cs := by
  have hs := h.size
  have fs := f.size
  have f2 : Fr (fun k => k = h0 + v) wr (w2.setCell ⟨h0 + v, 4, none⟩ (.slice (some ⟨wr.heap.size, 0, none⟩) (C v).length (C v).length)) :=
    (⟨f.os, f.tape, f.output, f.size, fun k hk _ => f.block k hk (by omega)⟩ : Fr (fun k => k = h0 + v) wr w2).setCell (p := ⟨h0 + v, 4, none⟩) (fun _ => rfl) _
  refine ⟨h.bel.trans (f2.below (by omega) (fun k hk => by omega)), (f2.block _ (by omega) (by omega)).trans h.acts, h.nodes.of_block (f2.block _ (by omega) (by omega)), Nat.le_trans hs f2.size, h.chs.of_block (f2.block _ (by omega) (by omega)),
    fun u hu => own_kept (h.own u hu) f2 (fun k hk => by have := ((h.own u hu).lt k hk).1; omega), ?_, fun u hu hn => (f2.block _ (by omega) (by omega)).trans (h.todo u (by omega) hn)⟩
  intro u hu hn
  by_cases e : u = v
  · subst e
    refine ⟨some ⟨wr.heap.size, 0, none⟩, (C u).length, ?_, fun i hi => ⟨wr.heap.size, rfl, hs, ?_, ?_⟩⟩
    · have h1 : w2.heap[h0 + u]? = some (.cells (nodeOf u none 0 0) 32 (0, 0)) := (f.block _ (by omega) (by omega)).trans (h.todo u (Nat.le_refl _) hn)
      simp [World.setCell, Array.getElem?_modify, h1, nodeOf]
    · have := hrow.lt
      simpa [World.setCell] using this
    · rw [World.cell?_of_block (w := w2) (Below.heap_setCell _ _ _ _ (by show wr.heap.size ≠ h0 + u; omega)), hrow.cell hi]
      simp [hi]
  · obtain ⟨a, cap, h1, h2⟩ := h.done u (by omega) hn
    refine ⟨a, cap, (f2.block _ (by omega) (by omega)).trans h1, fun i hi => ?_⟩
    obtain ⟨b, e1, e2, e3, e4⟩ := h2 i hi
    exact ⟨b, e1, e2, Nat.lt_of_lt_of_le e3 f2.size, (f2.cell (p := ⟨b, i, none⟩) e3 (by show ¬ b = h0 + v; omega)).trans e4⟩

theorem inner_start (wr : World) (len : Nat) (f : Nat → Value) : Fr (fun b => b = wr.heap.size) wr (wr.alloc (.cells (madeCells #[.pointer none] len) 26)) ∧ (wr.alloc (.cells (madeCells #[.pointer none] len) 26)).rowIs wr.heap.size 26 len (fun i => if i < 0 then f i else .pointer none) :=
  ⟨(Fr.refl _ wr).alloc _, (World.rowIs_made wr (.pointer none) len 26).congr (fun i _ => by simp)⟩
theorem inner_step {wr wi : World} {len t : Nat} {f : Nat → Value} {u : Value} (h1 : Fr (fun b => b = wr.heap.size) wr wi) (h2 : wi.rowIs wr.heap.size 26 len (fun i => if i < t then f i else .pointer none)) (hu : u = f t) :
    Fr (fun b => b = wr.heap.size) wr (wi.setCell ⟨wr.heap.size, t, none⟩ u) ∧ (wi.setCell ⟨wr.heap.size, t, none⟩ u).rowIs wr.heap.size 26 len (fun i => if i < t + 1 then f i else .pointer none) := by
  refine ⟨h1.setCell (p := ⟨wr.heap.size, t, none⟩) (fun _ => rfl) u, (h2.set t u).congr fun i _ => ?_⟩
  by_cases e : i = t
  · subst e; rw [if_pos rfl, if_pos (by omega), hu]
  · rw [if_neg e]
    by_cases e2 : i < t
    · rw [if_pos e2, if_pos (by omega)]
    · rw [if_neg e2, if_neg (by omega)]

/-- the world when Walk is called. -/
def W5 (wo : World) : World :=
  ((((wo.alloc (.cells #[.string ⟨#[122, 122, 32, 115, 116, 111, 112]⟩] 48)).alloc (.cells #[.iface 46 (.pointer (some ⟨wo.heap.size, 0, none⟩))] 36)).alloc (.cells #[.slice none 0 0] 34)).alloc (.cells #[.slice none 0 0] 34)).alloc (.cells #[.int .i64 0] 3)
section
variable (wo : World)
theorem W5.size : (W5 wo).heap.size = wo.heap.size + 5 := by simp [W5]
theorem W5.old {k : Nat} (h : k < wo.heap.size) : (W5 wo).heap[k]? = wo.heap[k]? := by
  unfold W5
  rw [Below.heap_alloc _ _ _ (by simp <;> omega), Below.heap_alloc _ _ _ (by simp <;> omega), Below.heap_alloc _ _ _ (by simp <;> omega), Below.heap_alloc _ _ _ (by simp <;> omega), Below.heap_alloc _ _ _ h]
theorem W5.e : (W5 wo).heap[wo.heap.size]? = some (.cells #[.string ⟨#[122, 122, 32, 115, 116, 111, 112]⟩] 48 (0, 0)) := by
  unfold W5
  rw [Below.heap_alloc _ _ _ (by simp <;> omega), Below.heap_alloc _ _ _ (by simp <;> omega), Below.heap_alloc _ _ _ (by simp <;> omega), Below.heap_alloc _ _ _ (by simp)]
  exact heap_alloc_new _ _
theorem W5.s : (W5 wo).heap[wo.heap.size + 1]? = some (.cells #[.iface 46 (.pointer (some ⟨wo.heap.size, 0, none⟩))] 36 (0, 0)) := by
  unfold W5
  rw [Below.heap_alloc _ _ _ (by simp <;> omega), Below.heap_alloc _ _ _ (by simp <;> omega), Below.heap_alloc _ _ _ (by simp)]
  have h := heap_alloc_new (wo.alloc (.cells #[.string ⟨#[122, 122, 32, 115, 116, 111, 112]⟩] 48)) (.cells #[.iface 46 (.pointer (some ⟨wo.heap.size, 0, none⟩))] 36)
  simpa using h
theorem W5.n : (W5 wo).heap[wo.heap.size + 1 + 1]? = some (.cells #[.slice none 0 0] 34 (0, 0)) := by
  unfold W5
  rw [Below.heap_alloc _ _ _ (by simp <;> omega), Below.heap_alloc _ _ _ (by simp)]
  have h := heap_alloc_new ((wo.alloc (.cells #[.string ⟨#[122, 122, 32, 115, 116, 111, 112]⟩] 48)).alloc (.cells #[.iface 46 (.pointer (some ⟨wo.heap.size, 0, none⟩))] 36)) (.cells #[.slice none 0 0] 34)
  simpa using h
theorem W5.i : (W5 wo).heap[wo.heap.size + 1 + 1 + 1]? = some (.cells #[.slice none 0 0] 34 (0, 0)) := by
  unfold W5
  rw [Below.heap_alloc _ _ _ (by simp)]
  have h := heap_alloc_new (((wo.alloc (.cells #[.string ⟨#[122, 122, 32, 115, 116, 111, 112]⟩] 48)).alloc (.cells #[.iface 46 (.pointer (some ⟨wo.heap.size, 0, none⟩))] 36)).alloc (.cells #[.slice none 0 0] 34)) (.cells #[.slice none 0 0] 34)
  simpa using h
theorem W5.k : (W5 wo).heap[wo.heap.size + 1 + 1 + 1 + 1]? = some (.cells #[.int .i64 0] 3 (0, 0)) := by
  unfold W5
  have h := heap_alloc_new ((((wo.alloc (.cells #[.string ⟨#[122, 122, 32, 115, 116, 111, 112]⟩] 48)).alloc (.cells #[.iface 46 (.pointer (some ⟨wo.heap.size, 0, none⟩))] 36)).alloc (.cells #[.slice none 0 0] 34)).alloc (.cells #[.slice none 0 0] 34)) (.cells #[.int .i64 0] 3)
  simpa using h
theorem W5.log : LogAt (W5 wo) (wo.heap.size + 5) (wo.heap.size + 1 + 1 + 1 + 1) (wo.heap.size + 1 + 1) (wo.heap.size + 1 + 1 + 1) (.slice none 0 0) (.slice none 0 0) [] :=
  ⟨W5.k wo, ⟨W5.n wo, World.ownsRow_nil _ _ _ _, by omega⟩, ⟨W5.i wo, World.ownsRow_nil _ _ _ _, by omega⟩, by omega, by omega, by omega, by omega, fun k h => by cases h⟩
end
theorem W5.eq (wo : World) : ((((wo.alloc (.cells #[.string ⟨#[122, 122, 32, 115, 116, 111, 112]⟩] 48)).alloc (.cells #[.iface 46 (.pointer (some ⟨wo.heap.size, 0, none⟩))] 36)).alloc (.cells #[.slice none 0 0] 34)).alloc (.cells #[.slice none 0 0] 34)).alloc (.cells #[.int .i64 0] 3) = W5 wo := rfl
theorem W5.below {w : World} (wo : World) {n : Nat} (h : w.heap.size + 3 + n ≤ wo.heap.size) : Below w.heap.size wo (W5 wo) :=
  (((((Below.refl _ wo).alloc (by omega) _).alloc (by simp; omega) _).alloc (by simp; omega) _).alloc (by simp; omega) _).alloc (by simp; omega) _
/-- the world when the model is called. -/
def W8 (w7 : World) : World := ((w7.alloc (.cells #[.slice none 0 0] 34)).alloc (.cells #[.slice none 0 0] 34)).alloc (.cells #[.int .i64 0] 3)
section
variable (w7 : World)
theorem W8.size : (W8 w7).heap.size = w7.heap.size + 3 := by simp [W8]
theorem W8.old {k : Nat} (h : k < w7.heap.size) : (W8 w7).heap[k]? = w7.heap[k]? := by
  unfold W8
  rw [Below.heap_alloc _ _ _ (by simp <;> omega), Below.heap_alloc _ _ _ (by simp <;> omega), Below.heap_alloc _ _ _ h]
theorem W8.n : (W8 w7).heap[w7.heap.size]? = some (.cells #[.slice none 0 0] 34 (0, 0)) := by
  unfold W8
  rw [Below.heap_alloc _ _ _ (by simp <;> omega), Below.heap_alloc _ _ _ (by simp <;> omega)]
  exact heap_alloc_new _ _
theorem W8.i : (W8 w7).heap[w7.heap.size + 1]? = some (.cells #[.slice none 0 0] 34 (0, 0)) := by
  unfold W8
  rw [Below.heap_alloc _ _ _ (by simp <;> omega)]
  have h := heap_alloc_new (w7.alloc (.cells #[.slice none 0 0] 34)) (.cells #[.slice none 0 0] 34)
  simpa using h
theorem W8.k : (W8 w7).heap[w7.heap.size + 1 + 1]? = some (.cells #[.int .i64 0] 3 (0, 0)) := by
  unfold W8
  have h := heap_alloc_new ((w7.alloc (.cells #[.slice none 0 0] 34)).alloc (.cells #[.slice none 0 0] 34)) (.cells #[.int .i64 0] 3)
  simpa using h
theorem W8.log : LogAt (W8 w7) (w7.heap.size + 3) (w7.heap.size + 1 + 1) w7.heap.size (w7.heap.size + 1) (.slice none 0 0) (.slice none 0 0) [] :=
  ⟨W8.k w7, ⟨W8.n w7, World.ownsRow_nil _ _ _ _, by omega⟩, ⟨W8.i w7, World.ownsRow_nil _ _ _ _, by omega⟩, by omega, by omega, by omega, by omega, fun k h => by cases h⟩
theorem W8.fr : Fr (fun _ => False) w7 (W8 w7) := (((Fr.refl _ w7).alloc _).alloc _).alloc _
end
/-- all that is known behind the call of Walk, and the model's call told. -/
theorem mid7 {wo w7 : World} {n bA gC cap : Nat} {av : Value} {C : Nat → List Nat} {A : Nat → Nat} {nb : Nat → Nat} {bS bE : Nat} {pa : Addr} (hE : Env (W5 wo) (wo.heap.size + 2) n C A nb av bA bS bE pa) (hC : ChAt (W5 wo) (wo.heap.size + 2) gC n C)
    (hF : Fr (MS (wo.heap.size + 5) (wo.heap.size + 1 + 1 + 1 + 1) (wo.heap.size + 1 + 1) (wo.heap.size + 1 + 1 + 1)) (W5 wo) w7) (hRise : Rises C n) (hn : n ≤ 5000) (hn0 : 0 < n) (hlc : ∀ v, (C v).length ≤ 5000) (hw : wt C n 0 ≤ 9000) :
    (∀ k, k < wo.heap.size + 2 → w7.heap[k]? = (W5 wo).heap[k]?) ∧ wo.heap.size + 5 ≤ w7.heap.size ∧
    Calls Ybad.prog 8 #[.slice (some ⟨gC, 0, none⟩) n cap, .int .i64 0, av, .pointer (some ⟨w7.heap.size + 1 + 1, 0, none⟩), .pointer (some ⟨w7.heap.size, 0, none⟩), .pointer (some ⟨w7.heap.size + 1, 0, none⟩)] (W8 w7)
      fun e w' => e = .returned (.bool (full C A n 0 []).2) ∧ ∃ vN' vI', LogAt w' (w7.heap.size + 3) (w7.heap.size + 1 + 1) w7.heap.size (w7.heap.size + 1) vN' vI' (full C A n 0 []).1 ∧ Fr (MS (w7.heap.size + 3) (w7.heap.size + 1 + 1) w7.heap.size (w7.heap.size + 1)) (W8 w7) w' := by
  have s5 := W5.size wo
  have s7 := hF.size
  have hlow : ∀ k, k < wo.heap.size + 2 → w7.heap[k]? = (W5 wo).heap[k]? := hF.low (by omega) (by omega) (by omega) (by omega) (by omega)
  have hlow8 : ∀ k, k < wo.heap.size + 2 → (W8 w7).heap[k]? = (W5 wo).heap[k]? := fun k hk => (W8.old w7 (by omega)).trans (hlow k hk)
  refine ⟨hlow, by omega, ?_⟩
  exact model_any (top := wo.heap.size + 2) hRise hn hlc (by omega) (by omega) (by omega) n 0 (W8 w7) [] _ _ hn0 (by omega) (W8.log w7) (hC.below hlow8) (hE.acts.below hlow8) (by simp; omega) (by rw [W8.size]; exact Nat.le_refl _)

theorem ActsAt.mono {w : World} {top top' : Nat} {av : Value} {A : Nat → Nat} (h : ActsAt w top av A) (ht : top ≤ top') : ActsAt w top' av A := by
  obtain ⟨a, len, cap, x, h1, h2, h3, h4, h5⟩ := h
  refine ⟨a, len, cap, x, h1, h2, h3, h4, fun hl => ?_⟩
  obtain ⟨b, off, e, hb, hc⟩ := h5 hl
  exact ⟨b, off, e, by omega, hc⟩
theorem env5 {w wo : World} {n : Nat} {av : Value} {C : Nat → List Nat} {cs : Nat → Value} {A : Nat → Nat} {pa : Addr} (hL : Laid3 w wo n n (w.heap.size + 1) (w.heap.size + 1 + 1) (w.heap.size + 3) av C cs) (hA : ActsAt w w.heap.size av A)
    (hG : w.cell? ⟨0, 0, none⟩ = some (.iface 46 (.pointer (some pa)))) (hpa : ∃ ca ta, w.heap[pa.block]? = some (.cells ca ta (0, 0))) :
    Env (W5 wo) (wo.heap.size + 2) n C A (fun v => w.heap.size + 3 + v) av w.heap.size (wo.heap.size + 1) wo.heap.size pa ∧ ChAt (W5 wo) (wo.heap.size + 2) (w.heap.size + 1 + 1) n C ∧ (W5 wo).rowIs (w.heap.size + 1) 26 n (fun v => .pointer (some ⟨w.heap.size + 3 + v, 0, none⟩)) := by
  have hs := hL.size
  have h0 : 0 < w.heap.size := World.block_lt_of_cell? _ _ hG
  have hp : pa.block < w.heap.size := by obtain ⟨ca, ta, h⟩ := hpa; exact (Array.getElem?_eq_some_iff.1 h).1
  have hold : ∀ k, k < w.heap.size → (W5 wo).heap[k]? = w.heap[k]? := fun k hk => (W5.old wo (by omega)).trans (hL.bel.block k hk)
  refine ⟨⟨?_, (hA.below hold).mono (by omega), ?_, by omega, ?_, by omega, (World.cell?_of_block (hold 0 h0)).trans hG, by omega, by rw [hold _ hp]; exact hpa, by omega, ⟨_, _, W5.e wo⟩, by omega, ?_⟩, ⟨by omega, ?_⟩, hL.nodes.of_block (W5.old wo (by omega))⟩
  · intro u hu
    obtain ⟨a, cap, h1, h2⟩ := hL.done u hu hu
    refine ⟨a, cap, (W5.old wo (k := w.heap.size + 3 + u) (by omega)).trans h1, by show w.heap.size + 3 + u < wo.heap.size + 2; omega, fun i hi => ?_⟩
    obtain ⟨b, e1, e2, e3, e4⟩ := h2 i hi
    exact ⟨b, e1, by omega, (World.cell?_of_block (W5.old wo e3)).trans e4⟩
  · rw [World.cell?_of_block (w := wo) (W5.old wo (by show w.heap.size < _; omega))]
    simp [World.cell?, hL.acts]
  · simp [World.cell?, W5.s]
  · rintro rfl
    have hp' : wo.heap.size < w.heap.size := hp
    omega
  · intro u hu
    obtain ⟨a, cap, e, h2⟩ := own_form (hL.own u hu)
    refine ⟨a, cap, ?_, fun i hi => ?_⟩
    · rw [World.cell?_of_block (w := wo) (W5.old wo (by show w.heap.size + 1 + 1 < _; omega)), hL.chs.cell hu, e]
    · obtain ⟨b, e1, e2, e3, e4⟩ := h2 i hi
      refine ⟨b, e1, by omega, ?_⟩
      rw [World.cell?_of_block (w := wo) (W5.old wo e3), e4, List.getElem?_map, List.getElem?_eq_getElem hi]
      rfl

attribute [local go_sem] ne_nil eq_nil ne_nils eq_nils ne_same
theorem br_ne (W : World) : (binOp .neq 30 (.pointer none) (.pointer none)).run Ybad.prog W = .ok (.bool false) W := by kernel_rfl
theorem pn_same (W : World) (a : Addr) : (binOp .neq 26 (.pointer (some a)) (.pointer (some a))).run Ybad.prog W = .ok (.bool false) W := by
  have h : ∀ d : Nat, (Op.equalIn (d + 1) 26 (.pointer (some a)) (.pointer (some a))).run Ybad.prog W = .ok true W := fun d => by
    simp [Op.equalIn, run_underlying Ybad.underlying26, sizeOf, show Ybad.prog.info? 32 = some ((Ybad.prog.info? 32).get rfl) from rfl, run_sameAddr_same]
  simp only [binOp]
  simp [Op.equal, Op.maxDepth, h]
attribute [local go_sem] br_ne pn_same
theorem eq_rows {W : World} {d1 d2 n : Nat} {v1 v2 : Value} {L : Log} {f : Nat × Nat → Nat} (h1 : W.ownsRow d1 3 1 v1 n (L.map fun p => .int .i64 (f p : Nat))) (h2 : W.ownsRow d2 3 1 v2 n (L.map fun p => .int .i64 (f p : Nat))) (hn : n ≤ maxLen) :
    Calls Ybad.prog 9 #[v1, v2] W fun e w' => e = .returned (.bool true) ∧ ∃ m, w' = W.drewN m := by
  have hl : L.length = n := by simpa using h1.1
  obtain ⟨a1, c1, rfl, k1⟩ := own_form h1
  obtain ⟨a2, c2, rfl, k2⟩ := own_form h2
  have hz : ∀ i, i < n → (L.map fun p => Value.int .i64 (f p : Nat))[i]? = some (.int .i64 ((f (L.getD i (0, 0)) : Nat) : Int)) := fun i hi => by
    have hi' : i < L.length := by omega
    simp [hi']
  refine equal_same a1 a2 n c1 c2 (fun i => ((f (L.getD i (0, 0)) : Nat) : Int)) W hn (fun h0 => ?_) (fun h0 => ?_)
  · obtain ⟨b, e, _⟩ := k1 0 h0
    refine ⟨b, e, fun i hi => ?_⟩
    obtain ⟨b', e', _, _, h⟩ := k1 i hi
    rw [e] at e'
    cases e'
    rw [h]; exact hz i hi
  · obtain ⟨b, e, _⟩ := k2 0 h0
    refine ⟨b, e, fun i hi => ?_⟩
    obtain ⟨b', e', _, _, h⟩ := k2 i hi
    rw [e] at e'
    cases e'
    rw [h]; exact hz i hi
theorem own_drewN {w : World} {base n : Nat} {v : Value} {xs : List Value} (h : w.ownsRow base 3 1 v n xs) (m : Nat) : (w.drewN m).ownsRow base 3 1 v n xs := h

set_option maxRecDepth 100000 in
set_option maxHeartbeats 4000000 in
theorem law_walk {a0 a1 : Option Addr} {N c0 l1 c1 n : Nat} {P A : Nat → Nat} {pa : Addr} (w : World) (hN : N ≤ 4096) (hl1 : l1 ≤ 1048576) (hn : N + 1 = n) (hP : ParAt w a0 N P) (hA : ActsAt w w.heap.size (.slice a1 l1 c1) A)
    (hG : w.cell? ⟨0, 0, none⟩ = some (.iface 46 (.pointer (some pa)))) (hpa : ∃ ca ta, w.heap[pa.block]? = some (.cells ca ta (0, 0))) :
    Calls Ybad.prog 3 #[.slice a0 N c0, .slice a1 l1 c1] w fun e w' => e = .returned (.bool true) ∧ Below w.heap.size w w' := by
  have e1 : (N : Int) + 1 = (n : Int) := by omega
  have e2 : ¬ ((4096 : Int) < N) := by omega
  have e3 : ¬ ((1048576 : Int) < l1) := by omega
  have hmk24 := run_make_row' (P := Ybad.prog) 24 26 (.pointer none) 8 Ybad.underlying24 info26 rfl .i64 .i64 n (by omega) (by omega)
  have hmk25 := run_make_row' (P := Ybad.prog) 25 34 (.slice none 0 0) 24 Ybad.underlying25 info34 rfl .i64 .i64 n (by omega) (by omega)
  have HP := keep hP
  have HA := keep hA
  have HG := keep hG
  have HPa := keep hpa
  have HNn := keep hn
  clear hP hA hG hpa hn
  go_enter Ybad.func3, Ybad.ntmps3
  go_wp2_with fail
  go_loopg [8] n (fun gk i wr => ∃ j : Nat, j ≤ n ∧ gk = n - j ∧ i = .int .i64 j ∧ Laid1 w wr n j (w.heap.size + 1) (w.heap.size + 1 + 1) (w.heap.size + 3) (.slice a1 l1 c1))
  case atStart =>
    exact ⟨0, Nat.zero_le _, rfl, rfl, laid1_start w n _⟩
  case round =>
    obtain ⟨j, hj, rfl, rfl, hla⟩ := hrel
    have HLa := keep hla
    by_cases hjn : j < n
    · have hc := hla.nodes.cell hjn
      have hf := hla.nodes.frozen j
      have hs : w.heap.size + 1 < wr.heap.size := hla.nodes.lt
      have hne := World.new_ne wr _ hc
      have b1 : (j : Int) < (n : Int) := by omega
      have hj5 : (j : Int) ≤ 5000 := by omega
      clear hla
      go_wp2_with fail
      go_roundg (n - (j + 1))
      case measure => omega
      case rel =>
        exact ⟨j + 1, by omega, rfl, by go_num, laid1_step HLa.out hjn⟩
    · obtain rfl : j = n := by omega
      have b1 : ¬ ((j : Int) < (j : Int)) := by omega
      clear hla
      have HL2 := keep (laid2_start (fun j => P j % (j + 1)) HLa.out)
      clear HLa
      go_wp2_with fail
      go_loopg [9] N (fun gk i wr => ∃ (k : Nat) (cs : Nat → Value), k ≤ N ∧ gk = N - k ∧ i = .int .i64 k ∧ Laid2 w wr j k (w.heap.size + 1) (w.heap.size + 1 + 1) (w.heap.size + 3) (.slice a1 l1 c1) (fun j => P j % (j + 1)) cs)
      case atStart => exact ⟨0, _, Nat.zero_le _, rfl, rfl, HL2.out⟩
      case round =>
        obtain ⟨k, cs, hk, rfl, rfl, hla⟩ := hrel
        by_cases hkn : k < N
        · obtain ⟨b, off, ea, hbl, hcell⟩ := (HP.out.below hla.bel).2 (by omega)
          have c0 := hcell k hkn
          have hpl : P k % (k + 1) < k + 1 := Nat.mod_lt _ (by omega)
          have hP5 := HP.out.1 k
          obtain ⟨p, hp⟩ : ∃ p, p = P k % (k + 1) := ⟨_, rfl⟩
          have hpn : p < j := by have := HNn.out; omega
          have c1 := hla.chs.cell hpn
          have f1 := hla.chs.frozen p
          have hpe : ((P k : Nat) : Int) % ((k : Int) + 1) = (p : Int) := by rw [hp]; simp
          have HPk := keep hp
          have own0 := hla.own p hpn
          have hcl : (kids (fun j => P j % (j + 1)) k p).length ≤ 5000 := Nat.le_trans (kids_length _ _ _) (by omega)
          have HLa := keep hla
          have hgl : w.heap.size + 1 + 1 < wr.heap.size := hla.chs.lt
          have hbase : w.heap.size + 3 + j ≤ wr.heap.size := hla.size
          have HOw := keep own0
          have ne1 := World.new_ne wr _ c1
          obtain ⟨i0, hi0, hz, hz1, hz2⟩ := i0_3
          subst ea
          clear hla hcell HL2 hp own0 hpl
          go_wp2_with (at_builtin; refine wpList_append_lies _ rfl (.tmp 74) (.tmp 77) 34 rfl (w.heap.size + 3 + j) 3 i0 (.int .i64 0) 1 8 Ybad.underlying34 hi0 hz hz1 hz2 rfl (by decide) (cs p) (kids (fun j => P j % (j + 1)) k p).length ((kids (fun j => P j % (j + 1)) k p).map fun c => .int .i64 (c : Nat)) rfl (by exact HOw.out.alloc _) ⟨wr.heap.size, 0, none⟩ 1 1 [.int .i64 ((k : Int) + 1)] rfl rfl (by exact news_one wr _ 3 rfl) (by intro u hu; rw [List.mem_singleton.1 hu]; rfl) (by decide) (by simp only [maxLen]; omega) (by omega) (by simp; omega) _ rfl ?_; intro g1 cap1 w1 hown1 hgr1 hor1 hlt1; obtain ⟨c2, f2⟩ := laid2_cell HLa.out hpn hgr1)
          go_roundg (N - (k + 1))
          case measure => omega
          case rel => exact ⟨k + 1, _, by omega, rfl, by go_num, laid2_step HLa.out HPk.out.symm hpn hown1 hgr1 hor1⟩
        · obtain rfl : k = N := by omega
          have HL3 := keep (laid3_start hla)
          have hCl : ∀ v, (kids (fun j => P j % (j + 1)) k v).length ≤ 5000 := fun v => Nat.le_trans (kids_length _ _ _) (by omega)
          have HCl := keep hCl
          have HRise := keep (kids_rise (par := fun j => P j % (j + 1)) (fun j => Nat.le_of_lt_succ (Nat.mod_lt _ (by omega))) k)
          have HWt := keep (wt_root (par := fun j => P j % (j + 1)) (fun j => Nat.le_of_lt_succ (Nat.mod_lt _ (by omega))) k)
          rw [HNn.out] at HRise HWt
          generalize hCC : kids (fun j => P j % (j + 1)) k = C at HL3 HCl HRise HWt
          clear hCC hla hCl HL2
          go_wp2_with fail
          go_loopg [11] j (fun gk i wr => ∃ (v : Nat), v ≤ j ∧ gk = j - v ∧ i = .int .i64 v ∧ Laid3 w wr j v (w.heap.size + 1) (w.heap.size + 1 + 1) (w.heap.size + 3) (.slice a1 l1 c1) C cs)
          case atStart => exact ⟨0, Nat.zero_le _, rfl, rfl, HL3.out⟩
          case round =>
            obtain ⟨v, hv, rfl, rfl, hl3⟩ := hrel
            by_cases hvn : v < j
            · obtain ⟨a, cap, ecs, hel⟩ := own_form (hl3.own v hvn)
              have cC := hl3.chs.cell hvn
              rw [ecs] at cC
              have hlv := HCl.out v
              have HL := keep hl3
              have HEl := keep hel
              by_cases hz : (C v).length = 0
              · have hz' : ¬ ((0 : Int) < ((C v).length : Int)) := by omega
                have HZ := keep hz
                clear hl3 HL3 hz hel
                go_wp2_with fail
                go_roundg (j - (v + 1))
                case measure => omega
                case rel => exact ⟨v + 1, by omega, rfl, by go_num, laid3_skip HL.out hvn HZ.out⟩
              · have hz' : (0 : Int) < ((C v).length : Int) := by omega
                have hmk := run_make_row' (P := Ybad.prog) 24 26 (.pointer none) 8 Ybad.underlying24 info26 rfl .i64 .i64 (C v).length (by omega) (by omega)
                clear hl3 HL3 hel
                go_wp2_with fail
                have hIS := inner_start wr (C v).length (fun i => .pointer (some ⟨w.heap.size + 3 + (C v).getD i 0, 0, none⟩))
                have HIS := keep hIS
                clear hIS
                rename World => wo
                go_loopg [13] (C v).length (fun gk i wi => ∃ t : Nat, t ≤ (C v).length ∧ gk = (C v).length - t ∧ i = .int .i64 t ∧ Fr (fun b => b = wo.heap.size) wo wi ∧ wi.rowIs wo.heap.size 26 (C v).length (fun i => if i < t then .pointer (some ⟨w.heap.size + 3 + (C v).getD i 0, 0, none⟩) else .pointer none))
                case atStart => exact ⟨0, Nat.zero_le _, rfl, rfl, HIS.out.1, HIS.out.2⟩
                case round =>
                  obtain ⟨t, ht, rfl, rfl, hfr, hrow⟩ := hrel
                  have hsz := HL.out.size
                  have gC1 : w.heap.size + 1 + 1 < wo.heap.size := HL.out.chs.lt
                  have gN1 : w.heap.size + 1 < wo.heap.size := HL.out.nodes.lt
                  have cC2 : wr.cell? ⟨w.heap.size + 1 + 1, v, none⟩ = _ := (hfr.cell (p := ⟨w.heap.size + 1 + 1, v, none⟩) gC1 (by show ¬ w.heap.size + 1 + 1 = wo.heap.size; omega)).trans cC
                  have HRow := keep hrow
                  have HFr := keep hfr
                  by_cases htl : t < (C v).length
                  · obtain ⟨b, ea, hb1, hb2, ce⟩ := HEl.out t htl
                    rw [List.getElem?_map, List.getElem?_eq_getElem htl] at ce
                    have ce2 : wr.cell? ⟨b, t, none⟩ = _ := (hfr.cell (p := ⟨b, t, none⟩) hb2 (by show ¬ b = wo.heap.size; omega)).trans ce
                    simp only [Option.map_some] at ce2
                    have hcn := (HRise.out v _ (List.getElem_mem htl)).2
                    have cn : wr.cell? ⟨w.heap.size + 1, (C v)[t], none⟩ = _ := (hfr.cell (p := ⟨w.heap.size + 1, (C v)[t], none⟩) gN1 (by show ¬ w.heap.size + 1 = wo.heap.size; omega)).trans (HL.out.nodes.cell hcn)
                    have ct := hrow.cell htl
                    have ft := hrow.frozen t
                    have HD := keep (show (Value.pointer (some ⟨w.heap.size + 3 + (C v)[t], 0, none⟩)) = .pointer (some ⟨w.heap.size + 3 + (C v).getD t 0, 0, none⟩) by simp [htl])
                    subst ea
                    have b1 : (t : Int) < ((C v).length : Int) := by omega
                    clear hrow hfr ce
                    go_wp2_with fail
                    go_roundg ((C v).length - (t + 1))
                    case measure => omega
                    case rel => exact ⟨t + 1, by omega, rfl, by go_num, inner_step HFr.out HRow.out HD.out⟩
                  · obtain rfl : t = (C v).length := by omega
                    have b1 : ¬ (((C v).length : Int) < ((C v).length : Int)) := by omega
                    have cn : wr.cell? ⟨w.heap.size + 1, v, none⟩ = _ := (hfr.cell (p := ⟨w.heap.size + 1, v, none⟩) gN1 (by show ¬ w.heap.size + 1 = wo.heap.size; omega)).trans (HL.out.nodes.cell hvn)
                    have hnd : wr.heap[w.heap.size + 3 + v]? = _ := (hfr.block (w.heap.size + 3 + v) (by omega) (by omega)).trans (HL.out.todo v (Nat.le_refl _) hvn)
                    have c4 : wr.cell? ⟨w.heap.size + 3 + v, 4, none⟩ = some (.slice none 0 0) := by simp [World.cell?, hnd, nodeOf]
                    have f4 : wr.frozen? ⟨w.heap.size + 3 + v, 4, none⟩ = false := by simp [World.frozen?, hnd]
                    clear hrow hfr hnd
                    go_wp2_with fail
                    go_roundg (j - (v + 1))
                    case measure => omega
                    case rel => exact ⟨v + 1, by omega, rfl, by go_num, laid3_step HL.out hvn rfl default HFr.out (HRow.out.congr (fun i hi => by rw [if_pos hi]))⟩
            · obtain rfl : v = j := by omega
              have b1 : ¬ ((v : Int) < (v : Int)) := by omega
              have HL := keep hl3
              clear hl3 HL3
              rename World => wo
              have HEnv := keep (env5 HL.out HA.out HG.out HPa.out)
              have cn : wo.cell? ⟨w.heap.size + 1, 0, none⟩ = some (.pointer (some ⟨w.heap.size + 3, 0, none⟩)) := HL.out.nodes.cell (i := 0) (by omega)
              have q0 : w.heap.size + 1 < wo.heap.size := HL.out.nodes.lt
              have q1 : w.heap.size + 1 < wo.heap.size + 1 := by omega
              have q2 : w.heap.size + 1 < wo.heap.size + 1 + 1 := by omega
              have q3 : w.heap.size + 1 < wo.heap.size + 1 + 1 + 1 := by omega
              have q4 : w.heap.size + 1 < wo.heap.size + 1 + 1 + 1 + 1 := by omega
              have HWalk := keep (walk_any (base := wo.heap.size + 5) (bK := wo.heap.size + 1 + 1 + 1 + 1) (bN := wo.heap.size + 1 + 1) (bI := wo.heap.size + 1 + 1 + 1) HRise.out (by omega) (by omega) HCl.out (by have := HWt.out; omega) (by omega) (by omega) (by omega) (W5 wo) _ _ (W5.log wo) HEnv.out.1 (by rw [W5.size]; exact Nat.le_refl _))
              go_wp2_with (go_at_call 4; refine (new_any _ _).mono ?_; rintro e w4 ⟨rfl, hw4⟩; rw [hw4]; clear hw4 w4)
              refine (show Calls Ybad.prog 7 _ (W5 wo) _ from HWalk.out.mono ?_)
              rintro e w7 ⟨rfl, xN, xI, hL7, hF7⟩
              have HL7 := keep hL7
              have HF7 := keep hF7
              have HM7 := keep (mid7 (cap := v) HEnv.out.1 HEnv.out.2.1 hF7 HRise.out (by omega) (by omega) HCl.out (by have := HWt.out; omega))
              have cA7 := (World.cell?_of_block (a := ⟨w.heap.size, 0, none⟩) (HM7.out.1 w.heap.size (by omega))).trans HEnv.out.1.cA
              have r0 : w.heap.size < w7.heap.size := by
                have := HM7.out.2.1
                omega
              have r1 : w.heap.size < w7.heap.size + 1 := by omega
              have r2 : w.heap.size < w7.heap.size + 1 + 1 := by omega
              clear hL7 hF7 q0 q1 q2 q3 q4 cn
              have HlenR := keep (show (full C A v 0 []).1.length ≤ maxLen by have h1 := full_length (C := C) (A := A) (n := v) 0 []; have h2 := HWt.out; simp only [maxLen, List.length_nil] at h1 ⊢; omega)
              generalize hR : full C A v 0 [] = R at HL7 HM7 HWalk HlenR ⊢
              generalize hret : (if R.2 = true then Value.iface 46 (.pointer (some ⟨wo.heap.size, 0, none⟩)) else Value.nilIface) = ret
              have HRet := keep hret
              clear hR hret HWalk
              go_wp2_with fail
              refine (show Calls Ybad.prog 8 _ (W8 w7) _ from HM7.out.2.2.mono ?_)
              rintro e w9 ⟨rfl, yN, yI, hL9, hF9⟩
              have low9 : ∀ k, k < w7.heap.size → w9.heap[k]? = w7.heap[k]? := fun k hk => (hF9.block k (by rw [W8.size]; omega) (by rintro (h | h | h | h) <;> omega)).trans (W8.old w7 hk)
              have s7 := HM7.out.2.1
              have f97 : Fr (fun _ => False) w7 w9 := ⟨hF9.os, hF9.tape, hF9.output, Nat.le_trans (by rw [W8.size]; omega) hF9.size, fun k hk _ => low9 k hk⟩
              have HL9 := keep hL9
              have HF9 := keep f97
              have g1 : w9.cell? ⟨wo.heap.size + 1 + 1, 0, none⟩ = some xN := (World.cell?_of_block (low9 _ (by show wo.heap.size + 1 + 1 < _; omega))).trans HL7.out.n.at
              have g2 : w9.cell? ⟨wo.heap.size + 1 + 1 + 1, 0, none⟩ = some xI := (World.cell?_of_block (low9 _ (by show wo.heap.size + 1 + 1 + 1 < _; omega))).trans HL7.out.i.at
              have g3 := hL9.n.at
              have g4 := hL9.i.at
              have g5 : w9.cell? ⟨wo.heap.size + 1, 0, none⟩ = some (.iface 46 (.pointer (some ⟨wo.heap.size, 0, none⟩))) := (World.cell?_of_block (low9 _ (by show wo.heap.size + 1 < _; omega))).trans ((World.cell?_of_block (HM7.out.1 _ (by show wo.heap.size + 1 < _; omega))).trans HEnv.out.1.cS)
              have HEqN := keep (eq_rows (own_kept HL7.out.n.own f97 (by simp)) hL9.n.own (by simpa using HlenR.out))
              have HEqI := keep (fun m => eq_rows (own_drewN (own_kept HL7.out.i.own f97 (by simp)) m) (own_drewN hL9.i.own m) (by simpa using HlenR.out))
              clear hL9 hF9 f97 low9 cA7 r0 r1 r2
              have HBel := keep (show Below w.heap.size w w9 by
                have h1 := HL.out.size
                have h2 := W5.size wo
                exact ((HL.out.bel.trans (W5.below wo h1)).trans (HF7.out.below (by omega) (by rintro k hk (h | h | h | h) <;> omega))).trans (HF9.out.below (by omega) (by simp)))
              have HTree := keep (HEnv.out.1.tree.below (w' := w9) (fun k hk => (HF9.out.block k (by omega) (by simp)).trans (HM7.out.1 k hk)))
              have HChs := keep (HEnv.out.2.1.below (w' := w9) (fun k hk => (HF9.out.block k (by omega) (by simp)).trans (HM7.out.1 k hk)))
              have HNod := keep (HEnv.out.2.2.of_block ((HF9.out.block (w.heap.size + 1) (by have := HL.out.nodes.lt; omega) (by simp)).trans (HM7.out.1 (w.heap.size + 1) (by have := HL.out.nodes.lt; omega))))
              have hb : R.2 = true ∨ R.2 = false := by cases R.2 <;> simp
              rcases hb with hb | hb
              · have hret := HRet.out
                rw [if_pos hb] at hret
                rw [← hret, hb]
                clear hret HRet
                go_upto_if 151 with (first | (go_at_call_of 9 xN; refine HEqN.out.mono ?_; rintro e w10 ⟨rfl, m10, hw10⟩; rw [hw10]; clear hw10 w10) | (go_at_call_of 9 xI; refine (HEqI.out _).mono ?_; rintro e w11 ⟨rfl, m11, hw11⟩; rw [hw11]; clear hw11 w11))
                go_wp2_with fail
                go_loopg [24] v (fun gk i wr => ∃ (u m : Nat), u ≤ v ∧ gk = v - u ∧ i = .int .i64 u ∧ wr = w9.drewN m)
                case atStart => exact ⟨0, _, Nat.zero_le _, rfl, rfl, rfl⟩
                case round =>
                  obtain ⟨u, m, hu, rfl, rfl, rfl⟩ := hrel
                  by_cases hun : u < v
                  · have cnu := HNod.out.cell hun
                    obtain ⟨aa, ac, hnd, hnt, hargs⟩ := HTree.out u hun
                    have hnd : w9.heap[w.heap.size + 3 + u]? = _ := hnd
                    obtain ⟨ca, cc, cch, hch⟩ := HChs.out.2 u hun
                    have k1 : w9.cell? ⟨w.heap.size + 3 + u, 1, none⟩ = some (.string ⟨#[]⟩) := by simp [World.cell?, hnd, nodeOf]
                    have k2 : w9.cell? ⟨w.heap.size + 3 + u, 2, none⟩ = some (.int .i32 (u : Nat)) := by simp [World.cell?, hnd, nodeOf]
                    have k3 : w9.cell? ⟨w.heap.size + 3 + u, 3, none⟩ = some (.int .i32 0) := by simp [World.cell?, hnd, nodeOf]
                    have k4 : w9.cell? ⟨w.heap.size + 3 + u, 4, none⟩ = some (.slice aa (C u).length ac) := by simp [World.cell?, hnd, nodeOf]
                    have k5 : w9.cell? ⟨w.heap.size + 3 + u, 5, none⟩ = some (.pointer none) := by simp [World.cell?, hnd, nodeOf]
                    have b2 : ((u : Int) < (v : Int)) := by omega
                    have hu5 : u < 4098 := by omega
                    have hlu := HCl.out u
                    have HArgs := keep hargs
                    have HCh6 := keep hch
                    clear hargs hch hnd hnt
                    go_wp2_with fail
                    go_quiet (fail)
                    go_wp2_with fail
                    go_loopg [26] (C u).length (fun gk i wr => ∃ (t m' : Nat), t ≤ (C u).length ∧ gk = (C u).length - t ∧ i = .int .i64 t ∧ wr = w9.drewN m')
                    case atStart => exact ⟨0, _, Nat.zero_le _, rfl, rfl, by first | rfl | exact World.drewN_drewN ..⟩
                    case round =>
                      obtain ⟨t, m', ht, rfl, rfl, rfl⟩ := hrel
                      by_cases htl : t < (C u).length
                      · obtain ⟨ba, ea, _, ce⟩ := HArgs.out t htl
                        obtain ⟨bc, ec, _, cf⟩ := HCh6.out t htl
                        have hcv := (HRise.out u _ (List.getElem_mem htl)).2
                        have cn := HNod.out.cell hcv
                        subst ea ec
                        have b3 : (t : Int) < ((C u).length : Int) := by omega
                        go_wp2_with fail
                        go_quiet (fail)
                        go_wp2_with fail
                        go_roundg ((C u).length - (t + 1))
                        case measure => omega
                        case rel => exact ⟨t + 1, _, by omega, rfl, by go_num, by first | rfl | exact World.drewN_drewN ..⟩
                      · obtain rfl : t = (C u).length := by omega
                        have b3 : ¬ (((C u).length : Int) < ((C u).length : Int)) := by omega
                        go_wp2_with fail
                        go_roundg (v - (u + 1))
                        case measure => omega
                        case rel => exact ⟨u + 1, _, by omega, rfl, by go_num, by first | rfl | exact World.drewN_drewN ..⟩
                  · obtain rfl : u = v := by omega
                    have b2 : ¬ ((u : Int) < (u : Int)) := by omega
                    go_wp2_with fail
                    go_ret
                    exact ⟨rfl, ⟨HBel.out.os, HBel.out.tape, HBel.out.output, HBel.out.size, HBel.out.block⟩⟩
              · have hret := HRet.out
                rw [if_neg (by rw [hb]; simp)] at hret
                rw [← hret, hb]
                clear hret HRet
                go_upto_if 151 with (first | (go_at_call_of 9 xN; refine HEqN.out.mono ?_; rintro e w10 ⟨rfl, m10, hw10⟩; rw [hw10]; clear hw10 w10) | (go_at_call_of 9 xI; refine (HEqI.out _).mono ?_; rintro e w11 ⟨rfl, m11, hw11⟩; rw [hw11]; clear hw11 w11))
                go_wp2_with fail
                go_loopg [24] v (fun gk i wr => ∃ (u m : Nat), u ≤ v ∧ gk = v - u ∧ i = .int .i64 u ∧ wr = w9.drewN m)
                case atStart => exact ⟨0, _, Nat.zero_le _, rfl, rfl, rfl⟩
                case round =>
                  obtain ⟨u, m, hu, rfl, rfl, rfl⟩ := hrel
                  by_cases hun : u < v
                  · have cnu := HNod.out.cell hun
                    obtain ⟨aa, ac, hnd, hnt, hargs⟩ := HTree.out u hun
                    have hnd : w9.heap[w.heap.size + 3 + u]? = _ := hnd
                    obtain ⟨ca, cc, cch, hch⟩ := HChs.out.2 u hun
                    have k1 : w9.cell? ⟨w.heap.size + 3 + u, 1, none⟩ = some (.string ⟨#[]⟩) := by simp [World.cell?, hnd, nodeOf]
                    have k2 : w9.cell? ⟨w.heap.size + 3 + u, 2, none⟩ = some (.int .i32 (u : Nat)) := by simp [World.cell?, hnd, nodeOf]
                    have k3 : w9.cell? ⟨w.heap.size + 3 + u, 3, none⟩ = some (.int .i32 0) := by simp [World.cell?, hnd, nodeOf]
                    have k4 : w9.cell? ⟨w.heap.size + 3 + u, 4, none⟩ = some (.slice aa (C u).length ac) := by simp [World.cell?, hnd, nodeOf]
                    have k5 : w9.cell? ⟨w.heap.size + 3 + u, 5, none⟩ = some (.pointer none) := by simp [World.cell?, hnd, nodeOf]
                    have b2 : ((u : Int) < (v : Int)) := by omega
                    have hu5 : u < 4098 := by omega
                    have hlu := HCl.out u
                    have HArgs := keep hargs
                    have HCh6 := keep hch
                    clear hargs hch hnd hnt
                    go_wp2_with fail
                    go_quiet (fail)
                    go_wp2_with fail
                    go_loopg [26] (C u).length (fun gk i wr => ∃ (t m' : Nat), t ≤ (C u).length ∧ gk = (C u).length - t ∧ i = .int .i64 t ∧ wr = w9.drewN m')
                    case atStart => exact ⟨0, _, Nat.zero_le _, rfl, rfl, by first | rfl | exact World.drewN_drewN ..⟩
                    case round =>
                      obtain ⟨t, m', ht, rfl, rfl, rfl⟩ := hrel
                      by_cases htl : t < (C u).length
                      · obtain ⟨ba, ea, _, ce⟩ := HArgs.out t htl
                        obtain ⟨bc, ec, _, cf⟩ := HCh6.out t htl
                        have hcv := (HRise.out u _ (List.getElem_mem htl)).2
                        have cn := HNod.out.cell hcv
                        subst ea ec
                        have b3 : (t : Int) < ((C u).length : Int) := by omega
                        go_wp2_with fail
                        go_quiet (fail)
                        go_wp2_with fail
                        go_roundg ((C u).length - (t + 1))
                        case measure => omega
                        case rel => exact ⟨t + 1, _, by omega, rfl, by go_num, by first | rfl | exact World.drewN_drewN ..⟩
                      · obtain rfl : t = (C u).length := by omega
                        have b3 : ¬ (((C u).length : Int) < ((C u).length : Int)) := by omega
                        go_wp2_with fail
                        go_roundg (v - (u + 1))
                        case measure => omega
                        case rel => exact ⟨u + 1, _, by omega, rfl, by go_num, by first | rfl | exact World.drewN_drewN ..⟩
                  · obtain rfl : u = v := by omega
                    have b2 : ¬ ((u : Int) < (u : Int)) := by omega
                    go_wp2_with fail
                    go_ret
                    exact ⟨rfl, ⟨HBel.out.os, HBel.out.tape, HBel.out.output, HBel.out.size, HBel.out.block⟩⟩
end Go.Proofs.YbulkgemgDoor
