/-
  9054C, fifth text: Walk: its stack of frames; the loop.
-/
import Derived.Test.YbulkgemgDoorWalkC
import Derived.LaidEql
namespace Go.Proofs.YbulkgemgDoor
open Go.RowKit
set_option linter.unusedSimpArgs false
set_option linter.unusedVariables false

/-- the tree, as Walk reads it. -/
def nodeOf (v : Nat) (a : Option Addr) (len cap : Nat) : Array Value := #[.int .u8 0, .string ⟨#[]⟩, .int .i32 (v : Nat), .int .i32 0, .slice a len cap, .pointer none]
def TreeAt (w : World) (top n : Nat) (C : Nat → List Nat) (nb : Nat → Nat) : Prop :=
  ∀ v, v < n → ∃ (a : Option Addr) (cap : Nat), w.heap[nb v]? = some (.cells (nodeOf v a (C v).length cap) 32 (0, 0)) ∧ nb v < top ∧
    ∀ i (h : i < (C v).length), ∃ b, a = some ⟨b, 0, none⟩ ∧ b < top ∧ w.cell? ⟨b, i, none⟩ = some (.pointer (some ⟨nb (C v)[i], 0, none⟩))
theorem TreeAt.below {w w' : World} {top n : Nat} {C : Nat → List Nat} {nb : Nat → Nat} (h : TreeAt w top n C nb) (hb : ∀ k, k < top → w'.heap[k]? = w.heap[k]?) : TreeAt w' top n C nb := by
  intro v hv
  obtain ⟨a, cap, h1, h2, h3⟩ := h v hv
  refine ⟨a, cap, (hb _ h2).trans h1, h2, fun i hi => ?_⟩
  obtain ⟨b, e, hbt, hc⟩ := h3 i hi
  exact ⟨b, e, hbt, (World.cell?_of_block (hb b hbt)).trans hc⟩

/-- the frames, the top one last. -/
def frames (nb : Nat → Nat) : List (Nat × Nat) → List Value
  | [] => []
  | (v, i) :: st => frames nb st ++ [.pointer (some ⟨nb v, 0, none⟩), .int .i64 (i : Nat)]
theorem frames_length (nb : Nat → Nat) : ∀ st, (frames nb st).length = st.length * 2
  | [] => rfl
  | (v, i) :: st => by simp [frames, frames_length nb st]; omega
def StackAt (w : World) (base g cap : Nat) (nb : Nat → Nat) (st : List (Nat × Nat)) : Prop := w.ownsRow base 50 2 (.slice (some ⟨g, 0, none⟩) st.length cap) st.length (frames nb st)

section
variable {w w' : World} {base g cap v i : Nat} {nb : Nat → Nat} {st : List (Nat × Nat)}
theorem StackAt.cur (h : StackAt w base g cap nb st) : ∃ cur, base ≤ g ∧ w.heap[g]? = some (.cells cur 50 (0, 0)) ∧ st.length ≤ cap ∧ cap ≤ maxLen ∧ cur.size = cap * 2 ∧ cur.toList.take (st.length * 2) = frames nb st := by
  rcases h.2 with ⟨h1, _⟩ | ⟨g', cap', cur, h1, r⟩
  · cases h1
  · cases h1
    exact ⟨cur, r⟩
theorem StackAt.lt (h : StackAt w base g cap nb st) : base ≤ g ∧ g < w.heap.size := by
  obtain ⟨cur, h1, h2, _⟩ := h.cur
  exact ⟨h1, (Array.getElem?_eq_some_iff.1 h2).1⟩
theorem StackAt.free (h : StackAt w base g cap nb st) (o : Nat) : w.frozen? ⟨g, o, none⟩ = false := by
  obtain ⟨cur, h1, h2, _⟩ := h.cur
  simp [World.frozen?, h2]
theorem StackAt.at (h : StackAt w base g cap nb st) {j : Nat} (hj : j < st.length * 2) : w.cell? ⟨g, j, none⟩ = (frames nb st)[j]? := by
  obtain ⟨cur, h1, h2, _, _, _, h3⟩ := h.cur
  rw [← h3, List.getElem?_take, if_pos hj]
  simp [World.cell?, h2]
theorem StackAt.top (h : StackAt w base g cap nb ((v, i) :: st)) : w.cell? ⟨g, st.length * 2, none⟩ = some (.pointer (some ⟨nb v, 0, none⟩)) ∧ w.cell? ⟨g, st.length * 2 + 1, none⟩ = some (.int .i64 (i : Nat)) := by
  have l := frames_length nb st
  constructor
  · rw [h.at (by simp only [List.length_cons]; omega)]
    simp only [frames]
    rw [List.getElem?_append_right (by omega)]
    simp [l]
  · rw [h.at (by simp only [List.length_cons]; omega)]
    simp only [frames]
    rw [List.getElem?_append_right (by omega)]
    simp [l]
theorem StackAt.pop (h : StackAt w base g cap nb ((v, i) :: st)) : StackAt w base g cap nb st := by
  obtain ⟨cur, h1, h2, h3, h4, h5, h6⟩ := h.cur
  refine ⟨frames_length nb st, Or.inr ⟨g, cap, cur, rfl, h1, h2, by simp at h3; omega, h4, h5, ?_⟩⟩
  have : (cur.toList.take (((v, i) :: st).length * 2)).take (st.length * 2) = (frames nb ((v, i) :: st)).take (st.length * 2) := by rw [h6]
  rw [List.take_take] at this
  simp only [List.length_cons] at this
  rw [Nat.min_eq_left (by omega)] at this
  rw [this]
  simp only [frames]
  rw [List.take_left' (frames_length nb st)]
theorem StackAt.kept {S : Nat → Prop} (h : StackAt w base g cap nb st) (f : Fr S w w') (hg : ¬ S g) : StackAt w' base g cap nb st := by
  obtain ⟨cur, h1, h2, r⟩ := h.cur
  exact ⟨frames_length nb st, Or.inr ⟨g, cap, cur, rfl, h1, (f.block g h.lt.2 hg).trans h2, r⟩⟩
theorem StackAt.next (h : StackAt w base g cap nb ((v, i) :: st)) : StackAt (w.setCell ⟨g, st.length * 2 + 1, none⟩ (.int .i64 ((i + 1 : Nat) : Int))) base g cap nb ((v, i + 1) :: st) := by
  obtain ⟨cur, h1, h2, h3, h4, h5, h6⟩ := h.cur
  refine ⟨frames_length nb ((v, i + 1) :: st), Or.inr ⟨g, cap, cur.setIfInBounds (st.length * 2 + 1) (.int .i64 ((i + 1 : Nat) : Int)), rfl, h1, ?_, h3, h4, by simpa using h5, ?_⟩⟩
  · simp [World.setCell, Array.getElem?_modify, h2]
  · rw [Array.toList_setIfInBounds, List.take_set]
    rw [show ((v, i + 1) :: st).length * 2 = ((v, i) :: st).length * 2 from rfl, h6]
    simp only [frames]
    rw [List.set_append_right _ _ (by rw [frames_length]; omega), frames_length]
    simp
end

/-- what lies below the log: all that the walk reads and nobody turns. -/
structure Env (w : World) (top n : Nat) (C : Nat → List Nat) (A : Nat → Nat) (nb : Nat → Nat) (av : Value) (bA bS bE : Nat) (pa : Addr) : Prop where
  tree : TreeAt w top n C nb
  acts : ActsAt w top av A
  cA : w.cell? ⟨bA, 0, none⟩ = some av
  lA : bA < top
  cS : w.cell? ⟨bS, 0, none⟩ = some (.iface 46 (.pointer (some ⟨bE, 0, none⟩)))
  lS : bS < top
  cG : w.cell? ⟨0, 0, none⟩ = some (.iface 46 (.pointer (some pa)))
  l0 : 0 < top
  hP : ∃ ca ta, w.heap[pa.block]? = some (.cells ca ta (0, 0))
  lP : pa.block < top
  hE : ∃ ca ta, w.heap[bE]? = some (.cells ca ta (0, 0))
  lE : bE < top
  ne : pa ≠ ⟨bE, 0, none⟩
theorem Env.below {w w' : World} {top n : Nat} {C : Nat → List Nat} {A : Nat → Nat} {nb : Nat → Nat} {av : Value} {bA bS bE : Nat} {pa : Addr} (h : Env w top n C A nb av bA bS bE pa) (hb : ∀ k, k < top → w'.heap[k]? = w.heap[k]?) : Env w' top n C A nb av bA bS bE pa :=
  ⟨h.tree.below hb, h.acts.below hb, (World.cell?_of_block (hb _ h.lA)).trans h.cA, h.lA, (World.cell?_of_block (hb _ h.lS)).trans h.cS, h.lS, (World.cell?_of_block (hb _ h.l0)).trans h.cG, h.l0,
    by rw [hb _ h.lP]; exact h.hP, h.lP, by rw [hb _ h.lE]; exact h.hE, h.lE, h.ne⟩
theorem ne_nil (W : World) (a : Addr) : (binOp .neq 36 (.iface 46 (.pointer (some a))) .nilIface).run Ybad.prog W = .ok (.bool true) W := by kernel_rfl
theorem eq_nil (W : World) (a : Addr) : (binOp .eql 36 (.iface 46 (.pointer (some a))) .nilIface).run Ybad.prog W = .ok (.bool false) W := by kernel_rfl
theorem ne_nils (W : World) : (binOp .neq 36 .nilIface .nilIface).run Ybad.prog W = .ok (.bool false) W := by kernel_rfl
theorem eq_nils (W : World) : (binOp .eql 36 .nilIface .nilIface).run Ybad.prog W = .ok (.bool true) W := by kernel_rfl
theorem ne_same (W : World) (a : Addr) : (binOp .neq 36 (.iface 46 (.pointer (some a))) (.iface 46 (.pointer (some a)))).run Ybad.prog W = .ok (.bool false) W := by
  have h := run_equalIn_iface_ptr_same (P := Ybad.prog) W 9998 (i := (Ybad.prog.info? 46).get rfl) (j := (Ybad.prog.info? 48).get rfl) a Ybad.underlying36 Ybad.underlying46 (by kernel_rfl) (by kernel_rfl) (by kernel_rfl)
  simp only [binOp]
  simp [Op.equal, Op.maxDepth, h]
theorem ne_other (W : World) {a b : Addr} {ca cb : Array Value} {ta tb : TypeId} (hne : a ≠ b) (ha : W.heap[a.block]? = some (.cells ca ta (0, 0))) (hb : W.heap[b.block]? = some (.cells cb tb (0, 0))) :
    (binOp .neq 36 (.iface 46 (.pointer (some a))) (.iface 46 (.pointer (some b)))).run Ybad.prog W = .ok (.bool true) W := by
  have h := run_equalIn_iface_ptr_other (P := Ybad.prog) W 9998 (i := (Ybad.prog.info? 46).get rfl) (j := (Ybad.prog.info? 48).get rfl) Ybad.underlying36 Ybad.underlying46 (by kernel_rfl) (by kernel_rfl) (by kernel_rfl) (by decide) hne ha hb
  simp only [binOp]
  simp [Op.equal, Op.maxDepth, h]
theorem Env.stop_ne {w : World} {top n : Nat} {C : Nat → List Nat} {A : Nat → Nat} {nb : Nat → Nat} {av : Value} {bA bS bE : Nat} {pa : Addr} (h : Env w top n C A nb av bA bS bE pa) :
    (binOp .neq 36 (.iface 46 (.pointer (some ⟨bE, 0, none⟩))) (.iface 46 (.pointer (some pa)))).run Ybad.prog w = .ok (.bool true) w := by
  obtain ⟨ca, ta, h1⟩ := h.hP
  obtain ⟨cb, tb, h2⟩ := h.hE
  exact ne_other w (fun e => h.ne e.symm) h2 h1
attribute [local go_sem] ne_nil eq_nil ne_nils eq_nils ne_same

theorem LogAt.kept {w w' : World} {S : Nat → Prop} {base bK bN bI : Nat} {vN vI : Value} {L : Log} (h : LogAt w base bK bN bI vN vI L) (f : Fr S w w') (hs : ∀ k, LogS bK bN bI vN vI k → ¬ S k) (hbase : base ≤ w.heap.size) : LogAt w' base bK bN bI vN vI L :=
  ⟨(f.block bK (Nat.lt_of_lt_of_le h.lt hbase) (hs _ (Or.inl rfl))).trans h.k, h.n.kept f (hs _ (Or.inr (Or.inl rfl))) (fun k hk => hs k (Or.inr (Or.inr (Or.inr (Or.inl hk))))), h.i.kept f (hs _ (Or.inr (Or.inr (Or.inl rfl)))) (fun k hk => hs k (Or.inr (Or.inr (Or.inr (Or.inr hk))))), h.lt, h.ne1, h.ne2, h.ne3, h.apart⟩
theorem LogAt.block {w : World} {base bK bN bI : Nat} {vN vI : Value} {L : Log} (h : LogAt w base bK bN bI vN vI L) (hbase : base ≤ w.heap.size) : ∀ k, LogS bK bN bI vN vI k → k < w.heap.size := by
  have := h.lt; have := h.n.lt; have := h.i.lt
  rintro k (h1 | h1 | h1 | h1 | h1)
  · omega
  · omega
  · omega
  · exact (h.n.block k h1).2
  · exact (h.i.block k h1).2
theorem stack_start {w : World} {base : Nat} (nb : Nat → Nat) (hbase : base ≤ w.heap.size) : StackAt (w.alloc (.cells #[.pointer (some ⟨nb 0, 0, none⟩), .int .i64 0] 50)) base w.heap.size 1 nb [(0, 0)] :=
  ⟨by simp [frames], Or.inr ⟨w.heap.size, 1, _, rfl, hbase, heap_alloc_new w _, by simp, by decide, rfl, rfl⟩⟩
theorem StackAt.alloc {w : World} {base g cap : Nat} {nb : Nat → Nat} {st : List (Nat × Nat)} {q : Nat × Nat} (h : StackAt w base g cap nb (q :: st)) (o : Obj) : (w.alloc o).ownsRow base 50 2 (.slice (some ⟨g, 0, none⟩) (st.length + 1) cap) (st.length + 1) (frames nb (q :: st)) :=
  World.ownsRow.alloc (show w.ownsRow base 50 2 (.slice (some ⟨g, 0, none⟩) (st.length + 1) cap) (st.length + 1) (frames nb (q :: st)) from h) o
theorem news_set2 (w : World) (p : Addr) (u : Value) (cs : Array Value) (e : TypeId) : ∀ j y, cs.toList[j]? = some y → ((w.setCell p u).alloc (.cells cs e)).cell? ((⟨w.heap.size, 0, none⟩ : Addr).add j) = some y := by
  have h := World.news_of_block (w := (w.setCell p u).alloc (.cells cs e)) (cs := cs) (t := e) (fr := (0, 0)) (heap_alloc_new (w.setCell p u) _)
  have s : (w.setCell p u).heap.size = w.heap.size := by simp [World.setCell]
  rw [s] at h
  exact h
theorem i0_50 : ∃ i0, Ybad.prog.info? 50 = some i0 ∧ i0.zero = some (.agg #[.pointer none, .int .i64 0]) ∧ i0.size = 2 ∧ i0.bytes = 16 := by
  have h : (Ybad.prog.info? 50).map (fun i => (i.zero, i.size, i.bytes)) = some (some (.agg #[.pointer none, .int .i64 0]), 2, 16) := by kernel_rfl
  cases e : Ybad.prog.info? 50 with
  | none => rw [e] at h; cases h
  | some i => rw [e] at h; simp at h; exact ⟨i, rfl, h.1, h.2.1, h.2.2⟩

theorem hr5_cell {w w' : World} {base bK bN bI g o : Nat} {uN uI : Value} {L : Log}
    (h : ∃ vN' vI', LogAt w' base bK bN bI vN' vI' L ∧ Fr (LogS bK bN bI uN uI) w.drew w' ∧ (∀ k, vN'.ownBlock = some k → uN.ownBlock = some k ∨ w.drew.heap.size ≤ k) ∧ (∀ k, vI'.ownBlock = some k → uI.ownBlock = some k ∨ w.drew.heap.size ≤ k))
    (hg : g < w.heap.size) (hs : ¬ LogS bK bN bI uN uI g) : w'.cell? ⟨g, o, none⟩ = w.cell? ⟨g, o, none⟩ := by
  obtain ⟨_, _, _, f, _⟩ := h
  exact f.cell (p := ⟨g, o, none⟩) hg hs

section
variable {w w5 : World} {base bK bN bI g cap v i m : Nat} {nb : Nat → Nat} {st : List (Nat × Nat)} {uN uI : Value} {L : Log} {C : Nat → List Nat} {n : Nat} {A : Nat → Nat} {R : Log × Bool}
/-- the loop's relation. -/
def Rel (C : Nat → List Nat) (A : Nat → Nat) (n : Nat) (nb : Nat → Nat) (base bK bN bI : Nat) (w : World) (R : Log × Bool) (gk : Nat) (sv : Value) (wr : World) : Prop :=
  ∃ (st : List (Nat × Nat)) (M : Log) (g cap : Nat) (uN uI : Value), sv = .slice (some ⟨g, 0, none⟩) st.length cap ∧ gk = weigh C n st ∧ StackAt wr base g cap nb st ∧ LogAt wr base bK bN bI uN uI M ∧
    uN.ownBlock ≠ some g ∧ uI.ownBlock ≠ some g ∧ Fr (MS base bK bN bI) w wr ∧ run C A n st M = R ∧ M.length + weigh C n st ≤ 9000 ∧ (∀ p ∈ st, p.1 < n ∧ p.2 ≤ (C p.1).length)
theorem rel_pop (hSt : StackAt w5 base g cap nb ((v, i) :: st)) (hL : LogAt w5 base bK bN bI uN uI (L ++ [(v, i)])) (ho : uN.ownBlock ≠ some g ∧ uI.ownBlock ≠ some g) (hF : Fr (MS base bK bN bI) w w5) (hb : base ≤ w5.heap.size)
    (hr : run C A n ((v, i) :: st) L = R) (hw : L.length + weigh C n ((v, i) :: st) ≤ 9000) (hin : ∀ p ∈ (v, i) :: st, p.1 < n ∧ p.2 ≤ (C p.1).length) (h4 : ¬ A L.length = 4) (hi : i = (C v).length) (m : Nat) :
    Rel C A n nb base bK bN bI w R (weigh C n st) (.slice (some ⟨g, 0, none⟩) st.length cap) (w5.drewN m) := by
  have f := (Fr.refl (fun _ => False) w5).drewN m
  refine ⟨st, L ++ [(v, i)], g, cap, uN, uI, rfl, rfl, (hSt.kept f (by simp)).pop, hL.kept f (fun _ _ h => h) hb, ho.1, ho.2, hF.drewN m, (run_pop (A := A) h4 hi).symm.trans hr, ?_, fun p hp => hin p (by simp [hp])⟩
  have := weigh_pop (n := n) (st := st) hi
  simp only [List.length_append, List.length_cons, List.length_nil]
  omega
theorem rel_next (hSt : StackAt w5 base g cap nb ((v, i) :: st)) (hL : LogAt w5 base bK bN bI uN uI (L ++ [(v, i)])) (ho : uN.ownBlock ≠ some g ∧ uI.ownBlock ≠ some g) (hF : Fr (MS base bK bN bI) w w5) (hb : base ≤ w5.heap.size) (m : Nat) :
    StackAt ((w5.drewN m).setCell ⟨g, st.length * 2 + 1, none⟩ (.int .i64 ((i : Int) + 1))) base g cap nb ((v, i + 1) :: st) ∧ LogAt ((w5.drewN m).setCell ⟨g, st.length * 2 + 1, none⟩ (.int .i64 ((i : Int) + 1))) base bK bN bI uN uI (L ++ [(v, i)]) ∧
    Fr (MS base bK bN bI) w ((w5.drewN m).setCell ⟨g, st.length * 2 + 1, none⟩ (.int .i64 ((i : Int) + 1))) ∧ base ≤ ((w5.drewN m).setCell ⟨g, st.length * 2 + 1, none⟩ (.int .i64 ((i : Int) + 1))).heap.size := by
  have f := (Fr.refl (fun _ => False) w5).drewN m
  have g1 := hSt.lt
  have f2 : Fr (fun k => k = g) w5 ((w5.drewN m).setCell ⟨g, st.length * 2 + 1, none⟩ (.int .i64 ((i : Int) + 1))) := ((Fr.refl (fun k => k = g) w5).drewN m).setCell (p := ⟨g, st.length * 2 + 1, none⟩) (fun _ => rfl) _
  refine ⟨(hSt.kept f (by simp)).next, hL.kept f2 ?_ hb, hF.next f2 ?_, ?_⟩
  · have := hL.lt; have := hL.n.lt; have := hL.i.lt
    rintro k (h | h | h | h | h) hk
    · omega
    · omega
    · omega
    · subst hk; exact ho.1 h
    · subst hk; exact ho.2 h
  · intro k _ hk
    exact Or.inr (Or.inr (Or.inr (by omega)))
  · exact Nat.le_trans hb f2.size
theorem rel_skip (hSt : StackAt w5 base g cap nb ((v, i) :: st)) (hL : LogAt w5 base bK bN bI uN uI (L ++ [(v, i)])) (ho : uN.ownBlock ≠ some g ∧ uI.ownBlock ≠ some g) (hF : Fr (MS base bK bN bI) w w5) (hb : base ≤ w5.heap.size)
    (hr : run C A n ((v, i) :: st) L = R) (hw : L.length + weigh C n ((v, i) :: st) ≤ 9000) (hin : ∀ p ∈ (v, i) :: st, p.1 < n ∧ p.2 ≤ (C p.1).length) (h3 : A L.length = 3) (hi : i < (C v).length) (m : Nat) :
    Rel C A n nb base bK bN bI w R (weigh C n ((v, i + 1) :: st)) (.slice (some ⟨g, 0, none⟩) (st.length + 1) cap) ((w5.drewN m).setCell ⟨g, st.length * 2 + 1, none⟩ (.int .i64 ((i : Int) + 1))) := by
  obtain ⟨h1, h2, h3', h4⟩ := rel_next hSt hL ho hF hb m
  refine ⟨(v, i + 1) :: st, L ++ [(v, i)], g, cap, uN, uI, rfl, rfl, h1, h2, ho.1, ho.2, h3', (run_skip (A := A) h3 hi).symm.trans hr, ?_, ?_⟩
  · have := weigh_next (n := n) (st := st) hi
    simp only [List.length_append, List.length_cons, List.length_nil]
    omega
  · intro p hp
    rcases List.mem_cons.1 hp with rfl | hp
    · have := hin (v, i) (by simp)
      exact ⟨this.1, hi⟩
    · exact hin p (by simp [hp])
theorem rel_push {W w6 : World} {o : Obj} {g' cap' : Nat} (hC : Rises C n) (hL : LogAt W base bK bN bI uN uI (L ++ [(v, i)])) (ho : uN.ownBlock ≠ some g ∧ uI.ownBlock ≠ some g) (hF : Fr (MS base bK bN bI) w W) (hb : base ≤ W.heap.size) (hgb : base ≤ g)
    (hr : run C A n ((v, i) :: st) L = R) (hw : L.length + weigh C n ((v, i) :: st) ≤ 9000) (hin : ∀ p ∈ (v, i) :: st, p.1 < n ∧ p.2 ≤ (C p.1).length) (h4 : ¬ A L.length = 4) (h3 : ¬ A L.length = 3) (hi : i < (C v).length)
    (hown : w6.ownsRow base 50 2 (.slice (some ⟨g', 0, none⟩) (st.length + 1 + 1) cap') (st.length + 1 + 1) (frames nb ((v, i + 1) :: st) ++ [.pointer (some ⟨nb (C v)[i], 0, none⟩), .int .i64 0]))
    (hgr : (W.alloc o).grownBy w6 (some g)) (hor : some g = some g' ∨ g' = (W.alloc o).heap.size) :
    Rel C A n nb base bK bN bI w R (weigh C n (((C v)[i], 0) :: (v, i + 1) :: st)) (.slice (some ⟨g', 0, none⟩) (st.length + 1 + 1) cap') w6 := by
  have f : Fr (fun k => k = g) W w6 := ((Fr.refl (fun k => k = g) W).alloc o).grown hgr (fun k hk _ => by cases hk; rfl)
  have hsz : W.heap.size ≤ (W.alloc o).heap.size := by simp
  have hlog : ∀ k, LogS bK bN bI uN uI k → k ≠ g := by
    have := hL.lt; have := hL.n.lt; have := hL.i.lt
    rintro k (h | h | h | h | h) hk
    · omega
    · omega
    · omega
    · subst hk; exact ho.1 h
    · subst hk; exact ho.2 h
  have hrise := hC v _ (List.getElem_mem hi)
  refine ⟨((C v)[i], 0) :: (v, i + 1) :: st, L ++ [(v, i)], g', cap', uN, uI, rfl, rfl, hown, hL.kept f hlog hb, ?_, ?_, hF.next f ?_, (run_push (A := A) hC h4 h3 hi).symm.trans hr, ?_, ?_⟩
  · intro e
    rcases hor with h | h
    · cases h; exact ho.1 e
    · have := (hL.n.block _ e).2; omega
  · intro e
    rcases hor with h | h
    · cases h; exact ho.2 e
    · have := (hL.i.block _ e).2; omega
  · intro k _ hk
    exact Or.inr (Or.inr (Or.inr (by omega)))
  · have := weigh_push (n := n) (st := st) hC hi
    simp only [List.length_append, List.length_cons, List.length_nil]
    omega
  · intro p hp
    rcases List.mem_cons.1 hp with rfl | hp
    · exact ⟨hrise.2, Nat.zero_le _⟩
    rcases List.mem_cons.1 hp with rfl | hp
    · have := hin (v, i) (by simp)
      exact ⟨this.1, hi⟩
    · exact hin p (by simp [hp])
end

theorem after_visit {w w' : World} {base bK bN bI g : Nat} {uN uI : Value} {L L' : Log} (hL : LogAt w base bK bN bI uN uI L)
    (h : ∃ vN' vI', LogAt w' base bK bN bI vN' vI' L' ∧ Fr (LogS bK bN bI uN uI) w.drew w' ∧ (∀ k, vN'.ownBlock = some k → uN.ownBlock = some k ∨ w.drew.heap.size ≤ k) ∧ (∀ k, vI'.ownBlock = some k → uI.ownBlock = some k ∨ w.drew.heap.size ≤ k))
    (hg : g < w.heap.size) (ho : uN.ownBlock ≠ some g ∧ uI.ownBlock ≠ some g) :
    ∃ vN' vI', LogAt w' base bK bN bI vN' vI' L' ∧ Fr (MS base bK bN bI) w w' ∧ Fr (LogS bK bN bI uN uI) w w' ∧ vN'.ownBlock ≠ some g ∧ vI'.ownBlock ≠ some g := by
  obtain ⟨vN', vI', h1, f, h2, h3⟩ := h
  have f' : Fr (LogS bK bN bI uN uI) w w' := ⟨f.os, f.tape, f.output, f.size, f.block⟩
  refine ⟨vN', vI', h1, f'.mono ?_, f', fun e => ?_, fun e => ?_⟩
  · rintro k _ (h | h | h | h | h)
    · exact Or.inl h
    · exact Or.inr (Or.inl h)
    · exact Or.inr (Or.inr (Or.inl h))
    · exact Or.inr (Or.inr (Or.inr (hL.n.block k h).1))
    · exact Or.inr (Or.inr (Or.inr (hL.i.block k h).1))
  · rcases h2 g e with h | h
    · exact ho.1 h
    · have h' : w.heap.size ≤ g := h
      omega
  · rcases h3 g e with h | h
    · exact ho.2 h
    · have h' : w.heap.size ≤ g := h
      omega

set_option maxRecDepth 100000 in
set_option maxHeartbeats 2000000 in
theorem walk_any {base bK bN bI top n bA bS bE : Nat} {av : Value} {A : Nat → Nat} {C : Nat → List Nat} {nb : Nat → Nat} {pa : Addr} (hC : Rises C n) (hn : n ≤ 5000) (hn0 : 0 < n) (hlc : ∀ v, (C v).length ≤ 5000) (hw0 : wt C n 0 ≤ 9000)
    (t1 : top ≤ bK) (t2 : top ≤ bN) (t3 : top ≤ bI) (w : World) (vN vI : Value) (hL : LogAt w base bK bN bI vN vI []) (hE : Env w top n C A nb av bA bS bE pa) (hbase : base ≤ w.heap.size) :
    Calls Ybad.prog 7 #[.pointer (some ⟨nb 0, 0, none⟩), .func (.func 5) #[] #[.pointer (some ⟨bN, 0, none⟩), .pointer (some ⟨bI, 0, none⟩), .pointer (some ⟨bA, 0, none⟩), .pointer (some ⟨bK, 0, none⟩), .pointer (some ⟨bS, 0, none⟩)]] w
      fun e w' => e = .returned (if (full C A n 0 []).2 = true then .iface 46 (.pointer (some ⟨bE, 0, none⟩)) else .nilIface) ∧ ∃ vN' vI', LogAt w' base bK bN bI vN' vI' (full C A n 0 []).1 ∧ Fr (MS base bK bN bI) w w' := by
  have HL := keep hL
  have HE := keep hE
  have HC := keep hC
  have HRun := keep (run_root (A := A) hC hn0)
  have HWt := keep (weigh_root hC hn0)
  clear hL hE hC
  generalize hR : full C A n 0 [] = R at HRun ⊢
  clear hR
  generalize hRet : (if R.2 = true then Value.iface 46 (.pointer (some ⟨bE, 0, none⟩)) else Value.nilIface) = ret
  have HRet := keep hRet
  clear hRet
  go_enter Ybad.func7, Ybad.ntmps7
  go_wp2_with fail
  go_loopg [5] (weigh C n [(0, 0)]) (fun gk sv wr => Rel C A n nb base bK bN bI w R gk sv wr)
  case atStart =>
    have hL := HL.out
    exact ⟨[(0, 0)], [], w.heap.size, 1, vN, vI, rfl, rfl, stack_start nb hbase, hL.kept ((Fr.refl (fun _ => False) w).alloc _) (fun _ _ h => h) hbase, (fun e => by have := (hL.n.block _ e).2; omega), (fun e => by have := (hL.i.block _ e).2; omega),
      (Fr.refl _ w).alloc _, HRun.out, by rw [HWt.out]; simpa using hw0, by intro p hp; rw [List.mem_singleton.1 hp]; exact ⟨hn0, Nat.zero_le _⟩⟩
  case round =>
    obtain ⟨st, M, g, cap, uN, uI, rfl, rfl, hSt, hLr, hoN, hoI, hFr, hrun, hwt, hin⟩ := hrel
    have HLr := keep hLr
    have HFr := keep hFr
    have HRn := keep hrun
    have HW := keep hwt
    have HIn := keep hin
    have HSt := keep hSt
    have HO := keep (And.intro hoN hoI)
    have hb : base ≤ wr.heap.size := Nat.le_trans hbase hFr.size
    have hlow := hFr.low t1 t2 t3 (Nat.le_trans t1 (Nat.le_of_lt hLr.lt)) (by have := hLr.lt; omega)
    have HEr := keep (HE.out.below hlow)
    clear hSt hLr hoN hoI hFr hrun hwt hin hlow HRun HWt HL
    rcases st with _ | ⟨⟨v, i⟩, st⟩
    · simp only [List.length_nil]
      go_wp2_with fail
      go_ret
      have e := HRn.out
      simp only [run] at e
      have hret := HRet.out
      rw [← e] at hret ⊢
      exact ⟨congrArg Ending.returned hret, uN, uI, HLr.out, HFr.out⟩
    · obtain ⟨hvn, hic⟩ : v < n ∧ i ≤ (C v).length := HIn.out (v, i) (by simp)
      obtain ⟨cT, cX⟩ := HSt.out.top
      have fT := HSt.out.free
      obtain ⟨hg, hgl⟩ := HSt.out.lt
      obtain ⟨a, cp, hnd, hnt, hkid⟩ := HEr.out.tree v hvn
      have HKid := keep hkid
      have HF := keep fT
      have hWn := HW.out
      have hsl : st.length ≤ 9000 := by have := weigh_length (C := C) (n := n) ((v, i) :: st); simp only [List.length_cons] at this; omega
      have hML : M.length ≤ 9000 := by omega
      have cL : wr.cell? ⟨nb v, 2, none⟩ = some (.int .i32 (v : Nat)) := by simp [World.cell?, hnd, nodeOf]
      have cAr : wr.cell? ⟨nb v, 4, none⟩ = some (.slice a (C v).length cp) := by simp [World.cell?, hnd, nodeOf]
      have HN := keep hnd
      simp only [List.length_cons]
      have hgS : ¬ LogS bK bN bI uN uI g := by
        have := HLr.out.lt; have := HLr.out.n.lt; have := HLr.out.i.lt
        rintro (h | h | h | h | h)
        · omega
        · omega
        · omega
        · exact HO.out.1 h
        · exact HO.out.2 h
      have hLd := HLr.out.kept ((Fr.refl (fun _ => False) wr).drew) (fun _ _ h => h) hb
      have hEd : Env wr.drew top n C A nb av bA bS bE pa := HEr.out.below (fun _ _ => rfl)
      have hcall := visit_any wr.drew base bK bN bI bA bS (nb v) top v i uN uI av _ _ A M hLd cL (by omega) (by have := hlc v; omega) (by omega) hEd.cA hEd.acts hEd.cS hEd.cG t1 t2 t3 hnt hEd.lA hEd.lS hEd.l0 hb
      have HGS := keep hgS
      clear hkid hnd fT hWn hLd hEd hgS
      clear cL HKid HF HN
      by_cases h4 : A M.length = 4
      · rw [if_neg (by omega), if_pos h4] at hcall
        have HCall := keep hcall
        have HA := keep h4
        clear hcall h4
        go_wp2_with fail
        go_region_held3 (fun w' => w'.cell? ⟨g, st.length * 2, none⟩ = some (.pointer (some ⟨nb v, 0, none⟩)) ∧ w'.cell? ⟨g, st.length * 2 + 1, none⟩ = some (.int .i64 (i : Nat)))
          (first | exact ⟨s1, s2⟩ | go_keep)
          (first | (go_at_call 5; refine HCall.out.mono ?_; rintro e w5 ⟨rfl, hr5⟩; have s1 := (hr5_cell hr5 hgl HGS.out).trans cT; have s2 := (hr5_cell hr5 hgl HGS.out).trans cX; have HR5 := keep hr5; clear hr5))
        obtain ⟨uN', uI', hL5, hF5, hF5', hoN5, hoI5⟩ := after_visit HLr.out HR5.out hgl HO.out
        have HFw := keep (HFr.out.trans hF5)
        have hlow5 := hF5.low t1 t2 t3 (Nat.le_trans t1 (Nat.le_of_lt hL5.lt)) (by have := hL5.lt; omega)
        have HE5 := keep (HEr.out.below hlow5)
        have HSt5 := keep (HSt.out.kept hF5' HGS.out)
        have HL5 := keep hL5
        have HO5 := keep (And.intro hoN5 hoI5)
        have hb5 : base ≤ w5.heap.size := Nat.le_trans hb hF5.size
        have f2 := HSt5.out.free (st.length * 2 + 1)
        have hcap : st.length + 1 ≤ cap := by obtain ⟨_, _, _, h, _⟩ := HSt5.out.cur; exact h
        have hcap' : st.length ≤ cap := by omega
        have hi5 : i ≤ 5000 := by have := hlc v; omega
        have cG := HE5.out.cG
        obtain ⟨a, cp, hnd, hnt, hkid⟩ := HE5.out.tree v hvn
        have cAr : w5.cell? ⟨nb v, 4, none⟩ = some (.slice a (C v).length cp) := by simp [World.cell?, hnd, nodeOf]
        have HKid := keep hkid
        clear hL5 hF5 hF5' hoN5 hoI5 hlow5 HR5 hnd hkid HLr HSt HEr HFr HO HGS HCall hb
        have hne := HE5.out.stop_ne
        go_wp2_with fail
        go_ret
        have e := (run_stop (C := C) (n := n) (v := v) (i := i) (st := st) HA.out).symm.trans HRn.out
        have hret := HRet.out
        rw [← e] at hret ⊢
        exact ⟨congrArg Ending.returned hret, uN', uI', HL5.out, HFw.out⟩
      · by_cases h3 : A M.length = 3
        · rw [if_pos h3] at hcall
          have HCall := keep hcall
          have HA := keep h4
          have HA3 := keep h3
          clear hcall h4 h3
          go_wp2_with fail
          go_region_held3 (fun w' => w'.cell? ⟨g, st.length * 2, none⟩ = some (.pointer (some ⟨nb v, 0, none⟩)) ∧ w'.cell? ⟨g, st.length * 2 + 1, none⟩ = some (.int .i64 (i : Nat)))
            (first | exact ⟨s1, s2⟩ | go_keep)
            (first | (go_at_call 5; refine HCall.out.mono ?_; rintro e w5 ⟨rfl, hr5⟩; have s1 := (hr5_cell hr5 hgl HGS.out).trans cT; have s2 := (hr5_cell hr5 hgl HGS.out).trans cX; have HR5 := keep hr5; clear hr5))
          obtain ⟨uN', uI', hL5, hF5, hF5', hoN5, hoI5⟩ := after_visit HLr.out HR5.out hgl HO.out
          have HFw := keep (HFr.out.trans hF5)
          have hlow5 := hF5.low t1 t2 t3 (Nat.le_trans t1 (Nat.le_of_lt hL5.lt)) (by have := hL5.lt; omega)
          have HE5 := keep (HEr.out.below hlow5)
          have HSt5 := keep (HSt.out.kept hF5' HGS.out)
          have HL5 := keep hL5
          have HO5 := keep (And.intro hoN5 hoI5)
          have hb5 : base ≤ w5.heap.size := Nat.le_trans hb hF5.size
          have f2 := HSt5.out.free (st.length * 2 + 1)
          have hcap : st.length + 1 ≤ cap := by obtain ⟨_, _, _, h, _⟩ := HSt5.out.cur; exact h
          have hcap' : st.length ≤ cap := by omega
          have hi5 : i ≤ 5000 := by have := hlc v; omega
          have cG := HE5.out.cG
          obtain ⟨a, cp, hnd, hnt, hkid⟩ := HE5.out.tree v hvn
          have cAr : w5.cell? ⟨nb v, 4, none⟩ = some (.slice a (C v).length cp) := by simp [World.cell?, hnd, nodeOf]
          have HKid := keep hkid
          clear hL5 hF5 hF5' hoN5 hoI5 hlow5 HR5 hnd hkid HLr HSt HEr HFr HO HGS HCall hb
          go_wp2_with fail
          go_quiet (fail)
          by_cases hi : i = (C v).length
          · have bi : ((i : Int) == ((C v).length : Int)) = true := by simp; omega
            have HI := keep hi
            clear hi
            go_wp2_with fail
            go_roundg (weigh C n st)
            case measure => have := weigh_pop (n := n) (st := st) HI.out; omega
            case rel => exact rel_pop HSt5.out HL5.out HO5.out HFw.out hb5 HRn.out HW.out HIn.out HA.out HI.out _
          · have bi : ((i : Int) == ((C v).length : Int)) = false := by simp; omega
            have hilt : i < (C v).length := by omega
            obtain ⟨bb, ea, hbt, cE⟩ := HKid.out i hilt
            subst ea
            go_wp2_with fail
            go_quiet (fail)
            go_wp2_with fail
            go_roundg (weigh C n ((v, i + 1) :: st))
            case measure => have := weigh_next (n := n) (st := st) hilt; omega
            case rel => exact rel_skip HSt5.out HL5.out HO5.out HFw.out hb5 HRn.out HW.out HIn.out HA3.out hilt _
        · rw [if_neg h3, if_neg h4] at hcall
          have HCall := keep hcall
          have HA := keep h4
          have HA3 := keep h3
          clear hcall h4 h3
          go_wp2_with fail
          go_region_held3 (fun w' => w'.cell? ⟨g, st.length * 2, none⟩ = some (.pointer (some ⟨nb v, 0, none⟩)) ∧ w'.cell? ⟨g, st.length * 2 + 1, none⟩ = some (.int .i64 (i : Nat)))
            (first | exact ⟨s1, s2⟩ | go_keep)
            (first | (go_at_call 5; refine HCall.out.mono ?_; rintro e w5 ⟨rfl, hr5⟩; have s1 := (hr5_cell hr5 hgl HGS.out).trans cT; have s2 := (hr5_cell hr5 hgl HGS.out).trans cX; have HR5 := keep hr5; clear hr5))
          obtain ⟨uN', uI', hL5, hF5, hF5', hoN5, hoI5⟩ := after_visit HLr.out HR5.out hgl HO.out
          have HFw := keep (HFr.out.trans hF5)
          have hlow5 := hF5.low t1 t2 t3 (Nat.le_trans t1 (Nat.le_of_lt hL5.lt)) (by have := hL5.lt; omega)
          have HE5 := keep (HEr.out.below hlow5)
          have HSt5 := keep (HSt.out.kept hF5' HGS.out)
          have HL5 := keep hL5
          have HO5 := keep (And.intro hoN5 hoI5)
          have hb5 : base ≤ w5.heap.size := Nat.le_trans hb hF5.size
          have f2 := HSt5.out.free (st.length * 2 + 1)
          have hcap : st.length + 1 ≤ cap := by obtain ⟨_, _, _, h, _⟩ := HSt5.out.cur; exact h
          have hcap' : st.length ≤ cap := by omega
          have hi5 : i ≤ 5000 := by have := hlc v; omega
          have cG := HE5.out.cG
          obtain ⟨a, cp, hnd, hnt, hkid⟩ := HE5.out.tree v hvn
          have cAr : w5.cell? ⟨nb v, 4, none⟩ = some (.slice a (C v).length cp) := by simp [World.cell?, hnd, nodeOf]
          have HKid := keep hkid
          clear hL5 hF5 hF5' hoN5 hoI5 hlow5 HR5 hnd hkid HLr HSt HEr HFr HO HGS HCall hb
          go_wp2_with fail
          go_quiet (fail)
          by_cases hi : i = (C v).length
          · have bi : ((i : Int) == ((C v).length : Int)) = true := by simp; omega
            have HI := keep hi
            clear hi
            go_wp2_with fail
            go_roundg (weigh C n st)
            case measure => have := weigh_pop (n := n) (st := st) HI.out; omega
            case rel => exact rel_pop HSt5.out HL5.out HO5.out HFw.out hb5 HRn.out HW.out HIn.out HA.out HI.out _
          · have bi : ((i : Int) == ((C v).length : Int)) = false := by simp; omega
            have hilt : i < (C v).length := by omega
            obtain ⟨bb, ea, hbt, cE⟩ := HKid.out i hilt
            subst ea
            go_wp2_with fail
            go_quiet (fail)
            obtain ⟨i0, hi0, hz, hz1, hz2⟩ := i0_50
            have hrn := fun m => rel_next HSt5.out HL5.out HO5.out HFw.out hb5 m
            have HRN := keep hrn
            clear hrn
            go_wp2_with (at_builtin; refine wpList_append_lies _ rfl (.tmp 78) (.tmp 81) 51 rfl base 50 i0 (.agg #[.pointer none, .int .i64 0]) 2 16 Ybad.underlying51 hi0 hz hz1 hz2 rfl (by decide) (.slice (some ⟨g, 0, none⟩) (st.length + 1) cap) (st.length + 1) (frames nb ((v, i + 1) :: st)) rfl (by exact (HRN.out _).1.alloc _) ⟨w5.heap.size, 0, none⟩ 1 1 [.pointer (some ⟨nb (C v)[i], 0, none⟩), .int .i64 0] rfl rfl (by exact news_set2 (w5.drewN _) _ _ #[_, _] 50) (by intro u hu; simp at hu; rcases hu with rfl | rfl <;> rfl) (by decide) (by simp only [maxLen]; omega) (by omega) (by simp; omega) _ rfl ?_; intro g6 cap6 w6 hown6 hgr6 hor6 hlt6; have H6 := keep (And.intro hown6 (And.intro hgr6 hor6)); clear hown6 hgr6 hor6)
            go_roundg (weigh C n (((C v)[i], 0) :: (v, i + 1) :: st))
            case measure => have := weigh_push (n := n) (st := st) HC.out hilt; omega
            case rel => exact rel_push HC.out (HRN.out _).2.1 HO5.out (HRN.out _).2.2.1 (HRN.out _).2.2.2 hg HRn.out HW.out HIn.out HA.out HA3.out hilt H6.out.1 H6.out.2.1 H6.out.2.2
end Go.Proofs.YbulkgemgDoor
