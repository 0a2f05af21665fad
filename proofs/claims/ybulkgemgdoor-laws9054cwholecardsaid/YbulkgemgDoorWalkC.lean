/-
  9054C, fourth text: the recursive model, by induction.
-/
import Derived.Test.YbulkgemgDoorWalkB
import Derived.Deep.DeepCutAuto
namespace Go.Proofs.YbulkgemgDoor
open Go.RowKit
set_option linter.unusedSimpArgs false
set_option linter.unusedVariables false

/-- the operands' lists, as the program holds them. -/
def ChAt (w : World) (top gC n : Nat) (C : Nat → List Nat) : Prop :=
  gC < top ∧ ∀ v, v < n → ∃ (a : Option Addr) (cap : Nat), w.cell? ⟨gC, v, none⟩ = some (.slice a (C v).length cap) ∧
    ∀ i (h : i < (C v).length), ∃ b, a = some ⟨b, 0, none⟩ ∧ b < top ∧ w.cell? ⟨b, i, none⟩ = some (.int .i64 ((C v)[i] : Nat))
theorem ChAt.below {w w' : World} {top gC n : Nat} {C : Nat → List Nat} (h : ChAt w top gC n C) (hb : ∀ k, k < top → w'.heap[k]? = w.heap[k]?) : ChAt w' top gC n C := by
  refine ⟨h.1, fun v hv => ?_⟩
  obtain ⟨a, cap, h1, h2⟩ := h.2 v hv
  refine ⟨a, cap, (World.cell?_of_block (hb gC h.1)).trans h1, fun i hi => ?_⟩
  obtain ⟨b, e, hbt, hc⟩ := h2 i hi
  exact ⟨b, e, hbt, (World.cell?_of_block (hb b hbt)).trans hc⟩

theorem wrem_pos (C : Nat → List Nat) (n : Nat) (rem : List Nat) : 0 < wrem C n rem := by unfold wrem; omega
theorem news_set (w : World) (p : Addr) (u x : Value) (e : TypeId) (hx : x.oneCell' = true) : ∀ j y, [x][j]? = some y → ((w.setCell p u).alloc (.cells #[x] e)).cell? ((⟨w.heap.size, 0, none⟩ : Addr).add j) = some y := by
  have h := news_one (w.setCell p u) x e hx
  have s : (w.setCell p u).heap.size = w.heap.size := by simp [World.setCell]
  rw [s] at h
  exact h
/-- what the model may turn. -/
def MS (base bK bN bI k : Nat) : Prop := k = bK ∨ k = bN ∨ k = bI ∨ base ≤ k

section
variable {w w2 : World} {base bK bN bI : Nat} {vN vI : Value} {L : Log}
/-- the counter first, then the two slices. -/
theorem LogAt.k1 (hL : LogAt w base bK bN bI vN vI L) (u : Value) :
    Half (w.setCell ⟨bK, 0, none⟩ u) base bN vN (L.map fun p => .int .i64 (p.1 : Nat)) ∧ Half (w.setCell ⟨bK, 0, none⟩ u) base bI vI (L.map fun p => .int .i64 (p.2 : Nat)) ∧
      (w.setCell ⟨bK, 0, none⟩ u).heap[bK]? = some (.cells #[u] 3 (0, 0)) := by
  have f : Fr (fun k => k = bK) w (w.setCell ⟨bK, 0, none⟩ u) := (Fr.refl (fun k => k = bK) w).setCell (p := ⟨bK, 0, none⟩) (fun _ => rfl) u
  refine ⟨hL.n.kept f (fun h => hL.ne1 h.symm) (fun k hk h => ?_), hL.i.kept f (fun h => hL.ne2 h.symm) (fun k hk h => ?_), ?_⟩
  · have := (hL.n.block k hk).1; have := hL.lt; omega
  · have := (hL.i.block k hk).1; have := hL.lt; omega
  · simp [World.setCell, Array.getElem?_modify, hL.k]
theorem LogAt.mdone {w3 : World} {g1 cap1 g2 cap2 v i : Nat} {o : Obj} {u : Value} (hL : LogAt w base bK bN bI vN vI L) (hbase : base ≤ w.heap.size)
    (hu : u = .int .i64 ((L.length + 1 : Nat) : Int))
    (hN : Half w2 base bN (.slice (some ⟨g1, 0, none⟩) (L.length + 1) cap1) ((L.map fun p => .int .i64 (p.1 : Nat)) ++ [.int .i64 (v : Nat)]))
    (hI : Half w2 base bI vI (L.map fun p => .int .i64 (p.2 : Nat)))
    (hF : Fr (fun k => k = bN ∨ vN.ownBlock = some k) (w.setCell ⟨bK, 0, none⟩ u) w2) (hG : vN.ownBlock = some g1 ∨ w.heap.size ≤ g1)
    (hown : w3.ownsRow base 3 1 (.slice (some ⟨g2, 0, none⟩) (L.length + 1) cap2) (L.length + 1) ((L.map fun p => .int .i64 (p.2 : Nat)) ++ [.int .i64 (i : Nat)])) (hgr : (w2.alloc o).grownBy w3 vI.ownBlock) (hor : vI.ownBlock = some g2 ∨ g2 = (w2.alloc o).heap.size) :
    ∃ vN' vI', LogAt (w3.setCell ⟨bI, 0, none⟩ (.slice (some ⟨g2, 0, none⟩) (L.length + 1) cap2)) base bK bN bI vN' vI' (L ++ [(v, i)]) ∧
      Fr (MS base bK bN bI) w (w3.setCell ⟨bI, 0, none⟩ (.slice (some ⟨g2, 0, none⟩) (L.length + 1) cap2)) := by
  have hsz : w2.heap.size ≤ (w2.alloc o).heap.size := by simp
  have lK := hL.lt
  have lN := hL.n.lt
  have lI := hL.i.lt
  have n1 := hL.ne1
  have n2 := hL.ne2
  have n3 := hL.ne3
  have s1 : (w.setCell ⟨bK, 0, none⟩ u).heap.size = w.heap.size := by simp [World.setCell]
  have s2 := hF.size
  have hg1 : base ≤ g1 ∧ g1 < w2.heap.size := hN.block g1 rfl
  have hg2 : base ≤ g2 ∧ g2 < w3.heap.size := hown.lt g2 rfl
  have hI1 : ∀ k, vI.ownBlock = some k → k ≠ g1 := by
    rintro k hk rfl
    rcases hG with h | h
    · exact hL.apart k h hk
    · have := (hL.i.block k hk).2
      omega
  have hg12 : g1 ≠ g2 := by
    rcases hor with h | h
    · exact fun e => hI1 g2 h e.symm
    · omega
  have f3 : Fr (fun k => vI.ownBlock = some k) w2 w3 := ((Fr.refl _ w2).alloc o).grown hgr (fun k hk _ => hk)
  have f4 : Fr (fun k => k = bI ∨ vI.ownBlock = some k) w2 (w3.setCell ⟨bI, 0, none⟩ (.slice (some ⟨g2, 0, none⟩) (L.length + 1) cap2)) :=
    (f3.mono (T := fun k => k = bI ∨ vI.ownBlock = some k) (fun _ _ h => Or.inr h)).setCell (p := ⟨bI, 0, none⟩) (fun _ => Or.inl rfl) _
  have hp := hI.push (S := fun _ => False) (u := .int .i64 (i : Nat)) (v' := .slice (some ⟨g2, 0, none⟩) (L.length + 1) cap2) ((Fr.refl _ w2).alloc o) (by simp) hgr (fun k hk => (hL.i.block k hk).1) (by simpa using hown) (fun k hk => by cases hk; exact hg2.1)
  have hn' := hN.kept f4 (by rintro (h | h); exact n3 h; have := (hL.i.block _ h).1; omega)
    (fun k hk => by
      obtain rfl : g1 = k := Option.some.inj hk
      rintro (h | h)
      · omega
      · exact hI1 _ h rfl)
  have f0 : Fr (MS base bK bN bI) w (w.setCell ⟨bK, 0, none⟩ u) := (Fr.refl (MS base bK bN bI) w).setCell (p := ⟨bK, 0, none⟩) (fun _ => Or.inl rfl) u
  refine ⟨_, _, ⟨?_, by simpa using hn', by simpa using hp, lK, n1, n2, n3, ?_⟩, ?_⟩
  · rw [Below.heap_setCell _ _ _ _ n2, f3.block bK (by omega) (fun h => by have := (hL.i.block _ h).1; omega), hF.block bK (by omega) (by rintro (h | h); exact n1 h; have := (hL.n.block _ h).1; omega), (hL.k1 u).2.2, hu]
    simp
  · intro k h1 h2
    cases h1
    cases h2
    exact hg12 rfl
  · refine (f0.next hF ?_).next f4 ?_
    · rintro k _ (h | h)
      · exact Or.inr (Or.inl h)
      · exact Or.inr (Or.inr (Or.inr (hL.n.block k h).1))
    · rintro k _ (h | h)
      · exact Or.inr (Or.inr (Or.inl h))
      · exact Or.inr (Or.inr (Or.inr (hL.i.block k h).1))
theorem LogAt.mid {w1 : World} {g1 cap1 v : Nat} {o : Obj} {u : Value} (hL : LogAt w base bK bN bI vN vI L)
    (hown : w1.ownsRow base 3 1 (.slice (some ⟨g1, 0, none⟩) (L.length + 1) cap1) (L.length + 1) ((L.map fun p => .int .i64 (p.1 : Nat)) ++ [.int .i64 (v : Nat)])) (hgr : ((w.setCell ⟨bK, 0, none⟩ u).alloc o).grownBy w1 vN.ownBlock)
    (hor : vN.ownBlock = some g1 ∨ g1 = ((w.setCell ⟨bK, 0, none⟩ u).alloc o).heap.size) :
    Half (w1.setCell ⟨bN, 0, none⟩ (.slice (some ⟨g1, 0, none⟩) (L.length + 1) cap1)) base bN (.slice (some ⟨g1, 0, none⟩) (L.length + 1) cap1) ((L.map fun p => .int .i64 (p.1 : Nat)) ++ [.int .i64 (v : Nat)]) ∧
    Half (w1.setCell ⟨bN, 0, none⟩ (.slice (some ⟨g1, 0, none⟩) (L.length + 1) cap1)) base bI vI (L.map fun p => .int .i64 (p.2 : Nat)) ∧
    Fr (fun k => k = bN ∨ vN.ownBlock = some k) (w.setCell ⟨bK, 0, none⟩ u) (w1.setCell ⟨bN, 0, none⟩ (.slice (some ⟨g1, 0, none⟩) (L.length + 1) cap1)) ∧ (vN.ownBlock = some g1 ∨ w.heap.size ≤ g1) := by
  have s1 : (w.setCell ⟨bK, 0, none⟩ u).heap.size = w.heap.size := by simp [World.setCell]
  have f : Fr (fun k => k = bN ∨ vN.ownBlock = some k) (w.setCell ⟨bK, 0, none⟩ u) (w1.setCell ⟨bN, 0, none⟩ (.slice (some ⟨g1, 0, none⟩) (L.length + 1) cap1)) :=
    (((Fr.refl (fun k => k = bN ∨ vN.ownBlock = some k) _).alloc o).grown hgr (fun k hk _ => Or.inr hk)).setCell (p := ⟨bN, 0, none⟩) (fun _ => Or.inl rfl) _
  refine ⟨?_, ?_, f, hor.imp id (fun h => by have : (w.setCell ⟨bK, 0, none⟩ u).heap.size ≤ ((w.setCell ⟨bK, 0, none⟩ u).alloc o).heap.size := by simp
                                             omega)⟩
  · exact (hL.k1 u).1.push (S := fun _ => False) ((Fr.refl _ _).alloc o) (by simp) hgr (fun k hk => (hL.n.block k hk).1) (by simpa using hown) (fun k hk => (hown.lt k hk).1)
  · refine (hL.k1 u).2.1.kept f ?_ ?_
    · rintro (h | h)
      · exact hL.ne3 h.symm
      · have := (hL.n.block _ h).1
        have := hL.i.lt
        omega
    · rintro k hk (h | h)
      · have := (hL.i.block _ hk).1
        have := hL.n.lt
        omega
      · exact hL.apart k h hk
theorem LogAt.lay {w1 : World} {o : Obj} {u : Value} (hL : LogAt w base bK bN bI vN vI L) (hgr : ((w.setCell ⟨bK, 0, none⟩ u).alloc o).grownBy w1 vN.ownBlock) :
    w1.cell? ⟨bN, 0, none⟩ = some vN ∧ w1.frozen? ⟨bN, 0, none⟩ = false ∧ w1.cell? ⟨bI, 0, none⟩ = some vI ∧ w1.frozen? ⟨bI, 0, none⟩ = false ∧ w1.heap.size ≠ bI := by
  obtain ⟨h1, h2, _⟩ := hL.k1 u
  have b1 : ∀ k, vN.ownBlock = some k → bN < k := fun k hk => by have := (hL.n.block k hk).1; have := hL.n.lt; omega
  have b2 : ∀ k, vN.ownBlock = some k → bI < k := fun k hk => by have := (hL.n.block k hk).1; have := hL.i.lt; omega
  have c := (far_cell' hgr 0 h2.size b2).trans h2.at
  exact ⟨(far_cell' hgr 0 h1.size b1).trans h1.at, (far_free' hgr 0 h1.size b1).trans h1.free, c, (far_free' hgr 0 h2.size b2).trans h2.free, World.new_ne w1 _ c⟩
theorem Half.lay {b : Nat} {v : Value} {xs : List Value} {w3 : World} {o : Obj} (h : Half w2 base b v xs) (hgr : (w2.alloc o).grownBy w3 v.ownBlock) : w3.cell? ⟨b, 0, none⟩ = some v ∧ w3.frozen? ⟨b, 0, none⟩ = false := by
  have b2 : ∀ k, v.ownBlock = some k → b < k := fun k hk => by have := (h.block k hk).1; have := h.lt; omega
  exact ⟨(far_cell' hgr 0 h.size b2).trans h.at, (far_free' hgr 0 h.size b2).trans h.free⟩
theorem Half.ownAlloc {b : Nat} {v : Value} {α : Type} {f : α → Value} {xs : List α} (h : Half w2 base b v (xs.map f)) (o : Obj) : (w2.alloc o).ownsRow base 3 1 v xs.length (xs.map f) := by
  have := h.own
  rw [List.length_map] at this
  exact this.alloc _
theorem Fr.low {top : Nat} (f : Fr (MS base bK bN bI) w w2) (t1 : top ≤ bK) (t2 : top ≤ bN) (t3 : top ≤ bI) (t4 : top ≤ base) (hs : top ≤ w.heap.size) : ∀ k, k < top → w2.heap[k]? = w.heap[k]? :=
  fun k hk => f.block k (by omega) (by rintro (h | h | h | h) <;> omega)
end

section
variable {A : Nat → Nat} {F : Nat → Log → Log × Bool} {v j : Nat} {M : Log} {cs : List Nat} {R : Log × Bool}
theorem sib_stop (rem : List Nat) (h : A M.length = 4) : sib A F v j rem M = (M ++ [(v, j)], true) := by cases rem <;> simp [sib, h]
theorem sib_last (h : A M.length ≠ 4) (hj : j = cs.length) : sib A F v j (cs.drop j) M = (M ++ [(v, j)], false) := by
  rw [List.drop_of_length_le (by omega)]
  simp [sib, h]
theorem sib_skip (h : A M.length = 3) (hj : j < cs.length) : sib A F v j (cs.drop j) M = sib A F v (j + 1) (cs.drop (j + 1)) (M ++ [(v, j)]) := by
  rw [List.drop_eq_getElem_cons hj]
  simp [sib, h]
theorem sib_in (h4 : A M.length ≠ 4) (h3 : A M.length ≠ 3) (hj : j < cs.length) (h : (F cs[j] (M ++ [(v, j)])).2 = true) : sib A F v j (cs.drop j) M = ((F cs[j] (M ++ [(v, j)])).1, true) := by
  rw [List.drop_eq_getElem_cons hj]
  simp only [sib, if_neg h4, if_neg h3, if_pos h]
theorem sib_on (h4 : A M.length ≠ 4) (h3 : A M.length ≠ 3) (hj : j < cs.length) (h : ¬ (F cs[j] (M ++ [(v, j)])).2 = true) : sib A F v j (cs.drop j) M = sib A F v (j + 1) (cs.drop (j + 1)) (F cs[j] (M ++ [(v, j)])).1 := by
  rw [List.drop_eq_getElem_cons hj]
  simp only [sib, if_neg h4, if_neg h3, if_neg h]
end
theorem wrem_at {C : Nat → List Nat} {n j : Nat} {cs : List Nat} (hj : j < cs.length) : wrem C n (cs.drop j) = wrem C n (cs.drop (j + 1)) + 1 + wt C n cs[j] := by
  rw [List.drop_eq_getElem_cons hj, wrem_cons]

set_option maxHeartbeats 2000000 in
theorem model_any {base bK bN bI top gC n cap : Nat} {av : Value} {A : Nat → Nat} {C : Nat → List Nat} (hC : Rises C n) (hn : n ≤ 5000)
    (hlc : ∀ v, (C v).length ≤ 5000)
    (t1 : top ≤ bK) (t2 : top ≤ bN) (t3 : top ≤ bI) : ∀ (m v : Nat) (w : World) (L : Log) (vN vI : Value), v < n → n ≤ v + m → LogAt w base bK bN bI vN vI L → ChAt w top gC n C → ActsAt w top av A → L.length + wt C n v ≤ 10000 → base ≤ w.heap.size →
    Calls Ybad.prog 8 #[.slice (some ⟨gC, 0, none⟩) n cap, .int .i64 v, av, .pointer (some ⟨bK, 0, none⟩), .pointer (some ⟨bN, 0, none⟩), .pointer (some ⟨bI, 0, none⟩)] w
      fun e w' => e = .returned (.bool (full C A n v L).2) ∧ ∃ vN' vI', LogAt w' base bK bN bI vN' vI' (full C A n v L).1 ∧ Fr (MS base bK bN bI) w w' := by
  intro m
  induction m with
  | zero => intro v w L vN vI hv hm; omega
  | succ m ih =>
    intro v w L vN vI hv hm hL hCh hAc hlen hbase
    obtain ⟨i0, hi0, hz, hz1, hz2⟩ := i0_3
    have HFull := keep (full_eq (A := A) hC hv L)
    have HC := keep hC
    have HIH := keep ih
    have HL := keep hL
    have HCh := keep hCh
    have HAc := keep hAc
    have hlen' : L.length + wrem C n ((C v).drop 0) ≤ 10000 := by rw [List.drop_zero, ← wt_eq hC hv]; exact hlen
    have hlv := hlc v
    clear hL hCh hAc hC ih hlen
    generalize hR : full C A n v L = R at HFull ⊢
    have HR := keep hR
    clear hR
    go_enter Ybad.func8, Ybad.ntmps8
    go_wp2_with fail
    go_loopw [13] (fun i wr => ∃ (j : Nat) (M : Log) (uN uI : Value), i = .int .i64 j ∧ j ≤ (C v).length ∧ LogAt wr base bK bN bI uN uI M ∧ Fr (MS base bK bN bI) w wr ∧ sib A (full C A n) v j ((C v).drop j) M = R ∧ M.length + wrem C n ((C v).drop j) ≤ 10000) (fun i _ => (C v).length + 1 - (intOf i).toNat)
    case atStart => exact ⟨0, L, vN, vI, rfl, by omega, HL.out, Fr.refl _ _, by rw [List.drop_zero]; exact HFull.out.symm, hlen'⟩
    case round =>
      obtain ⟨j, M, uN, uI, rfl, hj, hLr, hFr, hsib, hwr⟩ := hrel
      have hb : base ≤ wr.heap.size := Nat.le_trans hbase hFr.size
      have hlow := hFr.low t1 t2 t3 (Nat.le_trans t1 (Nat.le_of_lt hLr.lt)) (by have := hLr.lt; omega)
      have HChr := keep (HCh.out.below hlow)
      have HAcr := keep (HAc.out.below hlow)
      obtain ⟨a, cp, cC, hkid⟩ := HChr.out.2 v hv
      have HKid := keep hkid
      have hgc := HChr.out.1
      have cK := hLr.cK
      have fK := hLr.fK
      have cN := hLr.n.at
      have fN := hLr.n.free
      have cI := hLr.i.at
      have fI := hLr.i.free
      have lN := hLr.n.size
      have lI := hLr.i.size
      have n1 := hLr.ne1
      have n2 := hLr.ne2
      have n3 := hLr.ne3
      have n4 : gC ≠ bK := by omega
      have n5 : gC ≠ bN := by omega
      have n6 : gC ≠ bI := by omega
      have neN := World.new_ne wr _ cN
      have neI := World.new_ne wr _ cI
      have neC := World.new_ne wr _ cC
      have hML : M.length ≤ 10000 := by have := wrem_pos C n ((C v).drop j); omega
      have HO1 := keep (show ∀ u x, ((wr.setCell ⟨bK, 0, none⟩ u).alloc x).ownsRow base 3 1 uN M.length (M.map fun p => .int .i64 (p.1 : Nat)) from fun u x => by
        have := (hLr.k1 u).1.own
        rw [List.length_map] at this
        exact this.alloc _)
      have HBN := keep (show ∀ k, uN.ownBlock = some k → bN < k ∧ bI < k ∧ gC < k from fun k hk => by have := (hLr.n.block k hk).1; have := hLr.n.lt; have := hLr.i.lt; omega)
      have HBI := keep (show ∀ k, uI.ownBlock = some k → bI < k ∧ gC < k from fun k hk => by have := (hLr.i.block k hk).1; have := hLr.i.lt; omega)
      have HLr := keep hLr
      have HFr := keep hFr
      have HS := keep hsib
      have HW := keep hwr
      have hj1 : (j : Int) ≤ ((C v).length : Int) := by omega
      clear hLr hFr hsib hwr hlow hkid HL HFull hlen'
      go_upto_if 52 with (first | (go_at_call 6; refine (act_any HAcr.out M.length (by simp only [maxLen]; omega)).mono ?_; rintro e w5 ⟨rfl, hw5⟩; rw [hw5]; clear hw5 w5) | (at_builtin; refine wpList_append_lies _ rfl (.tmp 38) (.tmp 40) 34 rfl base 3 i0 (.int .i64 0) 1 8 Ybad.underlying34 hi0 hz hz1 hz2 rfl (by decide) uN M.length (M.map fun p => .int .i64 (p.1 : Nat)) rfl (by exact HO1.out _ _) ⟨wr.heap.size, 0, none⟩ 1 1 [.int .i64 (v : Nat)] rfl rfl (by exact news_set wr _ _ _ 3 rfl) (by intro u hu; rw [List.mem_singleton.1 hu]; rfl) (by decide) (by simp only [maxLen]; omega) (by omega) (by simp; omega) _ rfl ?_; intro g1 cap1 w1 hown1 hgr1 hor1 hlt1; obtain ⟨c1, f1, c2, f2, ne2⟩ := HLr.out.lay hgr1; have HMid := keep (HLr.out.mid hown1 hgr1 hor1); clear hown1 hgr1 hor1) | (at_builtin; refine wpList_append_lies _ rfl (.tmp 46) (.tmp 48) 34 rfl base 3 i0 (.int .i64 0) 1 8 Ybad.underlying34 hi0 hz hz1 hz2 rfl (by decide) uI M.length (M.map fun p => .int .i64 (p.2 : Nat)) rfl (by exact HMid.out.2.1.ownAlloc _) ⟨w1.heap.size, 0, none⟩ 1 1 [.int .i64 (j : Nat)] rfl rfl (by exact news_set w1 _ _ _ 3 rfl) (by intro u hu; rw [List.mem_singleton.1 hu]; rfl) (by decide) (by simp only [maxLen]; omega) (by omega) (by have := HMid.out.2.2.1.size; simp [World.setCell] at this ⊢; omega) _ rfl ?_; intro g2 cap2 w3 hown2 hgr2 hor2 hlt2; obtain ⟨c3, f3⟩ := HMid.out.2.1.lay hgr2))
      obtain ⟨uN', uI', hL5, hF5⟩ := HLr.out.mdone (v := v) (i := j) hb (by simp) HMid.out.1 HMid.out.2.1 HMid.out.2.2.1 HMid.out.2.2.2 hown2 hgr2 hor2
      have HL5 := keep hL5
      have HF5 := keep hF5
      clear hL5 hF5 hown2 hgr2 hor2 HMid c1 f1 c2 f2 ne2 c3 f3 hlt2 hlt1 cN fN cI fI lN lI neN neI neC HO1 HBN HBI cK fK cC
      generalize w3.setCell ⟨bI, 0, none⟩ (.slice (some ⟨g2, 0, none⟩) (M.length + 1) cap2) = w5 at HL5 HF5 ⊢
      have HFw := keep (HFr.out.trans HF5.out)
      have hlow5 := HFw.out.low t1 t2 t3 (Nat.le_trans t1 (Nat.le_of_lt HL5.out.lt)) (by have := HL5.out.lt; omega)
      have HCh5 := keep (HCh.out.below hlow5)
      have HAc5 := keep (HAc.out.below hlow5)
      have hb5 : base ≤ w5.heap.size := Nat.le_trans hbase HFw.out.size
      clear hlow5 HKid HAcr HLr HFr HF5 hb
      obtain ⟨a, cp, cC, hkid⟩ := HCh5.out.2 v hv
      have HKid := keep hkid
      clear hkid HChr
      by_cases h4 : A M.length = 4
      · have b4 : (((A M.length : Nat) : Int) == 4) = true := by simp [h4]
        have HA := keep h4
        clear h4
        go_wp2_with fail
        go_ret
        have e := (sib_stop (F := full C A n) (v := v) (j := j) ((C v).drop j) HA.out).symm.trans HS.out
        rw [← e]
        exact ⟨rfl, uN', uI', HL5.out, HFw.out⟩
      · have b4 : (((A M.length : Nat) : Int) == 4) = false := by
          simp
          omega
        have HA := keep h4
        clear h4
        by_cases hjl : j = (C v).length
        · have bj : ((j : Int) == ((C v).length : Int)) = true := by simp; omega
          have HJ := keep hjl
          clear hjl
          go_wp2_with fail
          go_ret
          have e := (sib_last (F := full C A n) (v := v) HA.out HJ.out).symm.trans HS.out
          rw [← e]
          exact ⟨rfl, uN', uI', HL5.out, HFw.out⟩
        · have bj : ((j : Int) == ((C v).length : Int)) = false := by simp; omega
          have hjlt : j < (C v).length := by omega
          have hw := wrem_at (C := C) (n := n) hjlt
          have HW' := HW.out
          by_cases h3 : A M.length = 3
          · have b3 : (((A M.length : Nat) : Int) == 3) = true := by simp [h3]
            have H3 := keep h3
            clear h3
            go_wp2_with fail
            go_roundw
            case measure => simp [intOf]; omega
            case rel => exact ⟨j + 1, M ++ [(v, j)], uN', uI', by go_num, by omega, HL5.out, HFw.out, (sib_skip (F := full C A n) (v := v) H3.out hjlt).symm.trans HS.out, by simp only [List.length_append, List.length_cons, List.length_nil]; omega⟩
          · have b3 : (((A M.length : Nat) : Int) == 3) = false := by simp; omega
            have H3 := keep h3
            clear h3
            obtain ⟨bb, ea, hbt, cE⟩ := HKid.out j hjlt
            subst ea
            have hrise := HC.out v _ (List.getElem_mem hjlt)
            have hcall := HIH.out _ w5 (M ++ [(v, j)]) uN' uI' hrise.2 (by omega) HL5.out HCh5.out HAc5.out (by simp only [List.length_append, List.length_cons, List.length_nil]; omega) hb5
            have hlen6 := full_length (C := C) (A := A) (n := n) ((C v)[j]) (M ++ [(v, j)])
            simp only [List.length_append, List.length_cons, List.length_nil] at hlen6
            by_cases hx : (full C A n ((C v)[j]) (M ++ [(v, j)])).2 = true
            · have e := (sib_in (F := full C A n) (v := v) HA.out H3.out hjlt hx).symm.trans HS.out
              rw [hx] at hcall
              have HCall := keep hcall
              have HE := keep e
              clear hcall e hx hlen6
              go_wp2_with (go_at_call 8; refine HCall.out.mono ?_; rintro e w6 ⟨rfl, hr6⟩; have HR6 := keep hr6; clear hr6)
              go_ret
              obtain ⟨xN, xI, hL6, hF6⟩ := HR6.out
              rw [← HE.out]
              exact ⟨rfl, xN, xI, hL6, HFw.out.trans hF6⟩
            · have e := (sib_on (F := full C A n) (v := v) HA.out H3.out hjlt hx).symm.trans HS.out
              rw [show (full C A n ((C v)[j]) (M ++ [(v, j)])).2 = false by simpa using hx] at hcall
              have HCall := keep hcall
              have HE := keep e
              clear hcall e hx
              go_wp2_with (go_at_call 8; refine HCall.out.mono ?_; rintro e w6 ⟨rfl, hr6⟩; have HR6 := keep hr6; clear hr6)
              go_roundw
              case measure => simp [intOf]; omega
              case rel =>
                obtain ⟨xN, xI, hL6, hF6⟩ := HR6.out
                exact ⟨j + 1, _, xN, xI, by go_num, by omega, hL6, HFw.out.trans hF6, HE.out, by omega⟩
end Go.Proofs.YbulkgemgDoor
