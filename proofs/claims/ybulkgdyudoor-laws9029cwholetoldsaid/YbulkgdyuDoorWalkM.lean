/-
  9029C, first text: the reader that hands out the data (58).
-/
import Derived.Test.YbulkgdyuDoorWalkA
import Derived.Laws.CopyOwn
namespace Go.Proofs.YbulkgdyuDoor.C
open Go.RowKit Go.Lib Go.Proofs.YbulkgdyuDoor
set_option linter.unusedSimpArgs false
set_option linter.unusedVariables false

theorem size5 : (Ybad.prog.info? 5).map (·.size) = some 1 := by kernel_rfl

/-- copy as one step of a region that draws: the row behind it, and what is kept. -/
theorem step_copy_fr {ops : Array Oper} {o : Oper} {a : Act} {w : World} {K : Act → World → Prop} {Q : Exit → Act → World → Prop} {E : Prop} (hgd : o.guard = none) (d s : Operand)
    (ho : o.op = .call { callee := .builtin .copy, args := #[d, s], argTypes := #[22, 22] })
    (dp sp : Option Addr) (dLen dCap sLen sCap : Nat) (hd : a.eval d = .slice dp dLen dCap) (hs : a.eval s = .slice sp sLen sCap)
    (g off : Nat) (cur : List Value) (t : TypeId) (hg : w.heap[g]? = some (.cells cur.toArray t (0, 0))) (cs : List Value) (hn : cs.length = Nat.min sLen dLen)
    (hpos : 0 < cs.length → dp = some ⟨g, off, none⟩ ∧ ∃ ad, sp = some ad ∧ ∀ j v, cs[j]? = some v → w.cell? (ad.add j) = some v)
    (hfit : off + cs.length ≤ cur.length) (h1 : ∀ v ∈ cs, v.oneCell' = true)
    (h : ∀ w', Hid (w'.heap[g]? = some (.cells (splice cur off cs).toArray t (0, 0))) → Hid (Fr (fun k => k = g) w w') → K (a.put o.dst (goInt cs.length)) w') :
    if Region.wanted o (yielded ops a.tmps) = true then Oper.wp Ybad.prog o a w K Q else E := by
  have hw : Region.wanted o (yielded ops a.tmps) = true := by simp [Region.wanted, hgd]
  rw [if_pos hw]
  by_cases h0 : cs.length = 0
  · obtain rfl : cs = [] := List.eq_nil_of_length_eq_zero h0
    have hrun := run_copy_none (P := Ybad.prog) w 22 22 o.type 5 dp sp dLen dCap sLen sCap Ybad.underlying22 size5 (by simpa using hn.symm)
    unfold Oper.wp
    simp [execOp, ho, resolve, invoke, builtin, hd, hs, hrun, Result.andThen]
    exact h w (keep (by simpa [splice] using hg)) (keep (Fr.refl _ _))
  · obtain ⟨rfl, ad, rfl, hsrc⟩ := hpos (by omega)
    have hrun := run_copy_row (P := Ybad.prog) w 22 22 o.type 5 g off dLen dCap ad sLen sCap cur.toArray t cs Ybad.underlying22 size5 hg hn hsrc (by simpa using hfit) h1
    unfold Oper.wp
    simp [execOp, ho, resolve, invoke, builtin, hd, hs, hrun, Result.andThen]
    refine h _ (keep (by simpa [splice] using setRow_heap w g _ _ t _ hg)) (keep ?_)
    exact ⟨rfl, rfl, rfl, by simp [World.setRow], fun k _ hk => setRow_other w g k _ hk⟩

/-- the data that came in, below B. -/
def DAt (B : Nat) (w : World) (dv : Value) (dl : List UInt8) : Prop :=
  (∃ ao dc, dv = .slice ao dl.length dc) ∧ (0 < dl.length → ∃ db o dc, dv = .slice (some ⟨db, o, none⟩) dl.length dc ∧ dl.length ≤ dc ∧ db < B ∧ ∀ j (h : j < dl.length), w.cell? ⟨db, o + j, none⟩ = some (.int .u8 (dl[j]).toNat))
theorem DAt.kept {B : Nat} {w w' : World} {dv : Value} {dl : List UInt8} (h : DAt B w dv dl) (hb : ∀ k, k < B → w'.heap[k]? = w.heap[k]?) : DAt B w' dv dl := by
  refine ⟨h.1, fun h0 => ?_⟩
  obtain ⟨db, o, dc, e, h1, h2, h3⟩ := h.2 h0
  exact ⟨db, o, dc, e, h1, h2, fun j hj => (World.cell?_of_block (hb db h2)).trans (h3 j hj)⟩
def seg (dl : List UInt8) (c k : Nat) : List UInt8 := (dl.drop c).take k
theorem seg_len (dl : List UInt8) (c k : Nat) (h : c + k ≤ dl.length) : (seg dl c k).length = k := by simp [seg]; omega
theorem seg_get (dl : List UInt8) (c k j : Nat) (h : c + k ≤ dl.length) (hj : j < k) : (seg dl c k)[j]? = dl[c + j]? := by simp [seg, hj]

def RdAt (w : World) (rb : Nat) (dv : Value) (pos ch : Nat) (ev : Value) : Prop := w.heap[rb]? = some (.cells #[dv, .int .i64 pos, .int .i64 ch, ev] 42 (0, 0))

set_option maxRecDepth 100000 in
set_option maxHeartbeats 1000000 in
theorem rd_end {rb m pc B ch : Nat} {pa : Option Addr} {dv ev : Value} {dl : List UInt8} (w : World) (hm : 0 < m) (hm2 : m ≤ 100000000) (hdl : dl.length ≤ 1048576) (hd : DAt B w dv dl) (hr : RdAt w rb dv dl.length ch ev) :
    Calls Ybad.prog 58 #[.pointer (some ⟨rb, 0, none⟩), .slice pa m pc] w fun e w' => e = .returned (.tuple #[.int .i64 0, ev]) ∧ ∃ n, w' = w.drewN n := by
  obtain ⟨⟨ao, dc, rfl⟩, _⟩ := hd
  have c0 : w.cell? ⟨rb, 0, none⟩ = some (.slice ao dl.length dc) := by simp [World.cell?, show w.heap[rb]? = _ from hr]
  have c1 : w.cell? ⟨rb, 1, none⟩ = some (.int .i64 dl.length) := by simp [World.cell?, show w.heap[rb]? = _ from hr]
  have c3 : w.cell? ⟨rb, 3, none⟩ = some ev := by simp [World.cell?, show w.heap[rb]? = _ from hr]
  have e1 : ¬ ((m : Int) = 0) := by omega
  clear hr
  go_enter Ybad.func58, Ybad.ntmps58
  go_wp2_with fail
  go_quiet (fail)
  go_wp2_with fail
  go_quiet (fail)
  go_wp2_with fail
  go_ret2
  exact ⟨rfl, _, by first | rfl | exact World.drewN_drewN ..⟩

theorem cell_all {w : World} {b : Nat} {cs : Array Value} {t : TypeId} (h : w.heap[b]? = some (.cells cs t (0, 0))) (o : Nat) : w.cell? ⟨b, o, none⟩ = cs[o]? := by simp [World.cell?, h]
theorem frozen_all {w : World} {b : Nat} {cs : Array Value} {t : TypeId} (h : w.heap[b]? = some (.cells cs t (0, 0))) (o : Nat) : w.frozen? ⟨b, o, none⟩ = false := by simp [World.frozen?, h]
theorem src_seg {w : World} {db o c k : Nat} {dl : List UInt8} (hc : ∀ j (h : j < dl.length), w.cell? ⟨db, o + j, none⟩ = some (.int .u8 (dl[j]).toNat)) (h : c + k ≤ dl.length) : ∀ j v, (byteCells (seg dl c k))[j]? = some v → w.cell? ((⟨db, o + c, none⟩ : Addr).add j) = some v := by
  intro j v hv
  have hj : j < k := by
    have := (List.getElem?_eq_some_iff.1 hv).1
    rwa [byteCells_length, seg_len dl c k h] at this
  have hadd : (⟨db, o + c, none⟩ : Addr).add j = ⟨db, o + (c + j), none⟩ := by
    unfold Addr.add
    split
    · simp_all
    · simp; omega
  rw [hadd, hc (c + j) (by omega), ← hv]
  simp only [byteCells, List.getElem?_map, seg_get dl c k j h hj, List.getElem?_eq_getElem (show c + j < dl.length by omega)]
  rfl

theorem rd_fin {w w2 : World} {rb g pos k ch : Nat} {dv ev : Value} {X : Option Obj} {z : Int} (h1 : w2.heap[rb]? = some (.cells #[dv, .int .i64 pos, .int .i64 ch, ev] 42 (0, 0))) (h2 : w2.heap[g]? = X) (hne : g ≠ rb) (hf : Fr (fun i => i = g) w w2) (hz : z = ((pos + k : Nat) : Int)) :
    RdAt (w2.setCell ⟨rb, 1, none⟩ (.int .i64 z)) rb dv (pos + k) ch ev ∧ (w2.setCell ⟨rb, 1, none⟩ (.int .i64 z)).heap[g]? = X ∧ Fr (fun i => i = rb ∨ i = g) w (w2.setCell ⟨rb, 1, none⟩ (.int .i64 z)) := by
  subst hz
  refine ⟨?_, (Below.heap_setCell w2 ⟨rb, 1, none⟩ _ g hne).trans h2, (hf.mono (T := fun i => i = rb ∨ i = g) (fun i _ e => Or.inr e)).setCell (p := ⟨rb, 1, none⟩) (fun _ => Or.inl rfl) _⟩
  unfold RdAt
  simp [World.setCell, Array.getElem?_modify, h1]

set_option maxRecDepth 100000 in
set_option maxHeartbeats 1000000 in
theorem rd_all {rb g off m pc B ch pos k : Nat} {t : TypeId} {cur : List Value} {dv ev : Value} {dl : List UInt8} (w : World) (hm : 0 < m) (hm2 : m ≤ 100000000) (hdl : dl.length ≤ 1048576) (hch : 1 ≤ ch ∧ ch ≤ 7) (hp : pos < dl.length)
    (h1 : dl.length - pos ≤ ch) (h2 : dl.length - pos ≤ m) (hk0 : k = dl.length - pos)
    (hd : DAt B w dv dl) (hr : RdAt w rb dv pos ch ev) (hg : w.heap[g]? = some (.cells cur.toArray t (0, 0))) (hne : g ≠ rb) (hfit : off + m ≤ cur.length) (hBr : B ≤ rb) (hBg : B ≤ g) :
    Calls Ybad.prog 58 #[.pointer (some ⟨rb, 0, none⟩), .slice (some ⟨g, off, none⟩) m pc] w fun e w' => e = .returned (.tuple #[.int .i64 k, .nilIface]) ∧ RdAt w' rb dv (pos + k) ch ev ∧ w'.heap[g]? = some (.cells (splice cur off (byteCells (seg dl pos k))).toArray t (0, 0)) ∧ Fr (fun i => i = rb ∨ i = g) w w' := by
  have hk : k ≤ m ∧ pos + k ≤ dl.length := by omega
  obtain ⟨db, o, dc, rfl, hdc, hdb, hc⟩ := hd.2 (by omega)
  have hr' : w.heap[rb]? = some (.cells #[.slice (some ⟨db, o, none⟩) dl.length dc, .int .i64 pos, .int .i64 ch, ev] 42 (0, 0)) := hr
  have c0 : w.cell? ⟨rb, 0, none⟩ = some (.slice (some ⟨db, o, none⟩) dl.length dc) := by simp [World.cell?, hr']
  have c1 : w.cell? ⟨rb, 1, none⟩ = some (.int .i64 pos) := by simp [World.cell?, hr']
  have c2 : w.cell? ⟨rb, 2, none⟩ = some (.int .i64 ch) := by simp [World.cell?, hr']
  have HR := keep hr'
  have HG := keep hg
  have HK := keep hk
  have HC := keep hc
  have HF := keep hfit
  have HBs := keep (show db < B ∧ B ≤ rb ∧ B ≤ g ∧ g ≠ rb from ⟨hdb, hBr, hBg, hne⟩)
  have e1 : ¬ ((m : Int) = 0) := by omega
  have e2 : ¬ ((dl.length : Int) ≤ pos) := by omega
  have hpl : pos < 1048577 := by omega
  have hkl : k < 1048577 := by omega
  have hdc2 : ¬ dc = pos := by omega
  have hkk : (dl.length : Int) - pos = k := by omega
  have hwr : IntKind.i64.wrap ((pos : Int) + k) = ((pos + k : Nat) : Int) := by rw [IntKind.wrap_i64]; omega
  have hdc3 : pos + k ≤ dc := by omega
  have hq1 : ¬ ((ch : Int) < k) := by omega
  have hq2 : ¬ ((m : Int) < k) := by omega
  clear h1 h2 hk0
  have hsl1 : (pos : Int) ≤ (pos : Int) + k := by omega
  have hsl2 : (pos : Int) + k ≤ dc := by omega
  clear hr hr' hg hd hk hc hdb hBr hBg hne
  go_enter Ybad.func58, Ybad.ntmps58
  go_wp2_with fail
  go_quiet (fail)
  go_wp2_with fail
  go_quiet (fail)
  go_wp2_with fail
  go_region_law (refine step_copy_fr rfl (.tmp 50) (.tmp 65) rfl _ _ _ _ _ _ rfl rfl g off cur t (by exact HG.out) (byteCells (seg dl pos k)) (by have h := HK.out; rw [byteCells_length, seg_len dl pos k h.2]; show _ = min _ _; omega) (fun _ => ⟨rfl, _, rfl, by exact src_seg HC.out HK.out.2⟩) (by have h := HK.out; have := HF.out; rw [byteCells_length, seg_len dl pos k h.2]; omega) (cells_one _) ?_; intro w2 hg2 hf2)
  all_goals (have hf0 : Fr (fun i => i = g) w w2 := ⟨hf2.out.os, hf2.out.tape, hf2.out.output, hf2.out.size, hf2.out.block⟩)
  all_goals (have hr2 : w2.heap[rb]? = _ := (hf0.block rb (Array.getElem?_eq_some_iff.1 HR.out).1 (fun e => HBs.out.2.2.2 e.symm)).trans HR.out)
  all_goals (have d1 : w2.cell? ⟨rb, 1, none⟩ = some (.int .i64 pos) := by simp [World.cell?, hr2])
  all_goals (have d2 : w2.frozen? ⟨rb, 1, none⟩ = false := by simp [World.frozen?, hr2])
  all_goals (have HF0 := keep hf0)
  all_goals (have HR2 := keep hr2)
  all_goals clear hf2 hf0 hr2
  all_goals (go_wp2_with fail)
  all_goals go_ret2
  all_goals exact ⟨rfl, rd_fin HR2.out hg2.out HBs.out.2.2.2 HF0.out (by omega)⟩

set_option maxRecDepth 100000 in
set_option maxHeartbeats 1000000 in
theorem rd_chunk {rb g off m pc B ch pos k : Nat} {t : TypeId} {cur : List Value} {dv ev : Value} {dl : List UInt8} (w : World) (hm : 0 < m) (hm2 : m ≤ 100000000) (hdl : dl.length ≤ 1048576) (hch : 1 ≤ ch ∧ ch ≤ 7) (hp : pos < dl.length)
    (h1 : ch < dl.length - pos) (h2 : ch ≤ m) (hk0 : k = ch)
    (hd : DAt B w dv dl) (hr : RdAt w rb dv pos ch ev) (hg : w.heap[g]? = some (.cells cur.toArray t (0, 0))) (hne : g ≠ rb) (hfit : off + m ≤ cur.length) (hBr : B ≤ rb) (hBg : B ≤ g) :
    Calls Ybad.prog 58 #[.pointer (some ⟨rb, 0, none⟩), .slice (some ⟨g, off, none⟩) m pc] w fun e w' => e = .returned (.tuple #[.int .i64 k, .nilIface]) ∧ RdAt w' rb dv (pos + k) ch ev ∧ w'.heap[g]? = some (.cells (splice cur off (byteCells (seg dl pos k))).toArray t (0, 0)) ∧ Fr (fun i => i = rb ∨ i = g) w w' := by
  have hk : k ≤ m ∧ pos + k ≤ dl.length := by omega
  obtain ⟨db, o, dc, rfl, hdc, hdb, hc⟩ := hd.2 (by omega)
  have hr' : w.heap[rb]? = some (.cells #[.slice (some ⟨db, o, none⟩) dl.length dc, .int .i64 pos, .int .i64 ch, ev] 42 (0, 0)) := hr
  have c0 : w.cell? ⟨rb, 0, none⟩ = some (.slice (some ⟨db, o, none⟩) dl.length dc) := by simp [World.cell?, hr']
  have c1 : w.cell? ⟨rb, 1, none⟩ = some (.int .i64 pos) := by simp [World.cell?, hr']
  have c2 : w.cell? ⟨rb, 2, none⟩ = some (.int .i64 ch) := by simp [World.cell?, hr']
  have HR := keep hr'
  have HG := keep hg
  have HK := keep hk
  have HC := keep hc
  have HF := keep hfit
  have HBs := keep (show db < B ∧ B ≤ rb ∧ B ≤ g ∧ g ≠ rb from ⟨hdb, hBr, hBg, hne⟩)
  have e1 : ¬ ((m : Int) = 0) := by omega
  have e2 : ¬ ((dl.length : Int) ≤ pos) := by omega
  have hpl : pos < 1048577 := by omega
  have hkl : k < 1048577 := by omega
  have hdc2 : ¬ dc = pos := by omega
  have hwr : IntKind.i64.wrap ((pos : Int) + k) = ((pos + k : Nat) : Int) := by rw [IntKind.wrap_i64]; omega
  have hdc3 : pos + k ≤ dc := by omega
  have hq1 : (ch : Int) < (dl.length : Int) - pos := by omega
  have hq2 : ¬ ((m : Int) < ch) := by omega
  clear h1 h2
  subst hk0
  have hsl1 : (pos : Int) ≤ (pos : Int) + k := by omega
  have hsl2 : (pos : Int) + k ≤ dc := by omega
  clear hr hr' hg hd hk hc hdb hBr hBg hne
  go_enter Ybad.func58, Ybad.ntmps58
  go_wp2_with fail
  go_quiet (fail)
  go_wp2_with fail
  go_quiet (fail)
  go_wp2_with fail
  go_region_law (refine step_copy_fr rfl (.tmp 50) (.tmp 65) rfl _ _ _ _ _ _ rfl rfl g off cur t (by exact HG.out) (byteCells (seg dl pos k)) (by have h := HK.out; rw [byteCells_length, seg_len dl pos k h.2]; show _ = min _ _; omega) (fun _ => ⟨rfl, _, rfl, by exact src_seg HC.out HK.out.2⟩) (by have h := HK.out; have := HF.out; rw [byteCells_length, seg_len dl pos k h.2]; omega) (cells_one _) ?_; intro w2 hg2 hf2)
  all_goals (have hf0 : Fr (fun i => i = g) w w2 := ⟨hf2.out.os, hf2.out.tape, hf2.out.output, hf2.out.size, hf2.out.block⟩)
  all_goals (have hr2 : w2.heap[rb]? = _ := (hf0.block rb (Array.getElem?_eq_some_iff.1 HR.out).1 (fun e => HBs.out.2.2.2 e.symm)).trans HR.out)
  all_goals (have d1 : w2.cell? ⟨rb, 1, none⟩ = some (.int .i64 pos) := by simp [World.cell?, hr2])
  all_goals (have d2 : w2.frozen? ⟨rb, 1, none⟩ = false := by simp [World.frozen?, hr2])
  all_goals (have HF0 := keep hf0)
  all_goals (have HR2 := keep hr2)
  all_goals clear hf2 hf0 hr2
  all_goals (go_wp2_with fail)
  all_goals go_ret2
  all_goals exact ⟨rfl, rd_fin HR2.out hg2.out HBs.out.2.2.2 HF0.out (by omega)⟩

set_option maxRecDepth 100000 in
set_option maxHeartbeats 1000000 in
theorem rd_room {rb g off m pc B ch pos k : Nat} {t : TypeId} {cur : List Value} {dv ev : Value} {dl : List UInt8} (w : World) (hm : 0 < m) (hm2 : m ≤ 100000000) (hdl : dl.length ≤ 1048576) (hch : 1 ≤ ch ∧ ch ≤ 7) (hp : pos < dl.length)
    (h1 : dl.length - pos ≤ ch) (h2 : m < dl.length - pos) (hk0 : k = m)
    (hd : DAt B w dv dl) (hr : RdAt w rb dv pos ch ev) (hg : w.heap[g]? = some (.cells cur.toArray t (0, 0))) (hne : g ≠ rb) (hfit : off + m ≤ cur.length) (hBr : B ≤ rb) (hBg : B ≤ g) :
    Calls Ybad.prog 58 #[.pointer (some ⟨rb, 0, none⟩), .slice (some ⟨g, off, none⟩) m pc] w fun e w' => e = .returned (.tuple #[.int .i64 k, .nilIface]) ∧ RdAt w' rb dv (pos + k) ch ev ∧ w'.heap[g]? = some (.cells (splice cur off (byteCells (seg dl pos k))).toArray t (0, 0)) ∧ Fr (fun i => i = rb ∨ i = g) w w' := by
  have hk : k ≤ m ∧ pos + k ≤ dl.length := by omega
  obtain ⟨db, o, dc, rfl, hdc, hdb, hc⟩ := hd.2 (by omega)
  have hr' : w.heap[rb]? = some (.cells #[.slice (some ⟨db, o, none⟩) dl.length dc, .int .i64 pos, .int .i64 ch, ev] 42 (0, 0)) := hr
  have c0 : w.cell? ⟨rb, 0, none⟩ = some (.slice (some ⟨db, o, none⟩) dl.length dc) := by simp [World.cell?, hr']
  have c1 : w.cell? ⟨rb, 1, none⟩ = some (.int .i64 pos) := by simp [World.cell?, hr']
  have c2 : w.cell? ⟨rb, 2, none⟩ = some (.int .i64 ch) := by simp [World.cell?, hr']
  have HR := keep hr'
  have HG := keep hg
  have HK := keep hk
  have HC := keep hc
  have HF := keep hfit
  have HBs := keep (show db < B ∧ B ≤ rb ∧ B ≤ g ∧ g ≠ rb from ⟨hdb, hBr, hBg, hne⟩)
  have e1 : ¬ ((m : Int) = 0) := by omega
  have e2 : ¬ ((dl.length : Int) ≤ pos) := by omega
  have hpl : pos < 1048577 := by omega
  have hkl : k < 1048577 := by omega
  have hdc2 : ¬ dc = pos := by omega
  have hwr : IntKind.i64.wrap ((pos : Int) + k) = ((pos + k : Nat) : Int) := by rw [IntKind.wrap_i64]; omega
  have hdc3 : pos + k ≤ dc := by omega
  have hq1 : ¬ ((ch : Int) < (dl.length : Int) - pos) := by omega
  have hq2 : (m : Int) < (dl.length : Int) - pos := by omega
  clear h1 h2
  subst hk0
  have hsl1 : (pos : Int) ≤ (pos : Int) + k := by omega
  have hsl2 : (pos : Int) + k ≤ dc := by omega
  clear hr hr' hg hd hk hc hdb hBr hBg hne
  go_enter Ybad.func58, Ybad.ntmps58
  go_wp2_with fail
  go_quiet (fail)
  go_wp2_with fail
  go_quiet (fail)
  go_wp2_with fail
  go_region_law (refine step_copy_fr rfl (.tmp 50) (.tmp 65) rfl _ _ _ _ _ _ rfl rfl g off cur t (by exact HG.out) (byteCells (seg dl pos k)) (by have h := HK.out; rw [byteCells_length, seg_len dl pos k h.2]; show _ = min _ _; omega) (fun _ => ⟨rfl, _, rfl, by exact src_seg HC.out HK.out.2⟩) (by have h := HK.out; have := HF.out; rw [byteCells_length, seg_len dl pos k h.2]; omega) (cells_one _) ?_; intro w2 hg2 hf2)
  all_goals (have hf0 : Fr (fun i => i = g) w w2 := ⟨hf2.out.os, hf2.out.tape, hf2.out.output, hf2.out.size, hf2.out.block⟩)
  all_goals (have hr2 : w2.heap[rb]? = _ := (hf0.block rb (Array.getElem?_eq_some_iff.1 HR.out).1 (fun e => HBs.out.2.2.2 e.symm)).trans HR.out)
  all_goals (have d1 : w2.cell? ⟨rb, 1, none⟩ = some (.int .i64 pos) := by simp [World.cell?, hr2])
  all_goals (have d2 : w2.frozen? ⟨rb, 1, none⟩ = false := by simp [World.frozen?, hr2])
  all_goals (have HF0 := keep hf0)
  all_goals (have HR2 := keep hr2)
  all_goals clear hf2 hf0 hr2
  all_goals (go_wp2_with fail)
  all_goals go_ret2
  all_goals exact ⟨rfl, rd_fin HR2.out hg2.out HBs.out.2.2.2 HF0.out (by omega)⟩

set_option maxRecDepth 100000 in
set_option maxHeartbeats 1000000 in
theorem rd_rooms {rb g off m pc B ch pos k : Nat} {t : TypeId} {cur : List Value} {dv ev : Value} {dl : List UInt8} (w : World) (hm : 0 < m) (hm2 : m ≤ 100000000) (hdl : dl.length ≤ 1048576) (hch : 1 ≤ ch ∧ ch ≤ 7) (hp : pos < dl.length)
    (h1 : ch < dl.length - pos) (h2 : m < ch) (hk0 : k = m)
    (hd : DAt B w dv dl) (hr : RdAt w rb dv pos ch ev) (hg : w.heap[g]? = some (.cells cur.toArray t (0, 0))) (hne : g ≠ rb) (hfit : off + m ≤ cur.length) (hBr : B ≤ rb) (hBg : B ≤ g) :
    Calls Ybad.prog 58 #[.pointer (some ⟨rb, 0, none⟩), .slice (some ⟨g, off, none⟩) m pc] w fun e w' => e = .returned (.tuple #[.int .i64 k, .nilIface]) ∧ RdAt w' rb dv (pos + k) ch ev ∧ w'.heap[g]? = some (.cells (splice cur off (byteCells (seg dl pos k))).toArray t (0, 0)) ∧ Fr (fun i => i = rb ∨ i = g) w w' := by
  have hk : k ≤ m ∧ pos + k ≤ dl.length := by omega
  obtain ⟨db, o, dc, rfl, hdc, hdb, hc⟩ := hd.2 (by omega)
  have hr' : w.heap[rb]? = some (.cells #[.slice (some ⟨db, o, none⟩) dl.length dc, .int .i64 pos, .int .i64 ch, ev] 42 (0, 0)) := hr
  have c0 : w.cell? ⟨rb, 0, none⟩ = some (.slice (some ⟨db, o, none⟩) dl.length dc) := by simp [World.cell?, hr']
  have c1 : w.cell? ⟨rb, 1, none⟩ = some (.int .i64 pos) := by simp [World.cell?, hr']
  have c2 : w.cell? ⟨rb, 2, none⟩ = some (.int .i64 ch) := by simp [World.cell?, hr']
  have HR := keep hr'
  have HG := keep hg
  have HK := keep hk
  have HC := keep hc
  have HF := keep hfit
  have HBs := keep (show db < B ∧ B ≤ rb ∧ B ≤ g ∧ g ≠ rb from ⟨hdb, hBr, hBg, hne⟩)
  have e1 : ¬ ((m : Int) = 0) := by omega
  have e2 : ¬ ((dl.length : Int) ≤ pos) := by omega
  have hpl : pos < 1048577 := by omega
  have hkl : k < 1048577 := by omega
  have hdc2 : ¬ dc = pos := by omega
  have hwr : IntKind.i64.wrap ((pos : Int) + k) = ((pos + k : Nat) : Int) := by rw [IntKind.wrap_i64]; omega
  have hdc3 : pos + k ≤ dc := by omega
  have hq1 : (ch : Int) < (dl.length : Int) - pos := by omega
  have hq2 : (m : Int) < ch := by omega
  clear h1 h2
  subst hk0
  have hsl1 : (pos : Int) ≤ (pos : Int) + k := by omega
  have hsl2 : (pos : Int) + k ≤ dc := by omega
  clear hr hr' hg hd hk hc hdb hBr hBg hne
  go_enter Ybad.func58, Ybad.ntmps58
  go_wp2_with fail
  go_quiet (fail)
  go_wp2_with fail
  go_quiet (fail)
  go_wp2_with fail
  go_region_law (refine step_copy_fr rfl (.tmp 50) (.tmp 65) rfl _ _ _ _ _ _ rfl rfl g off cur t (by exact HG.out) (byteCells (seg dl pos k)) (by have h := HK.out; rw [byteCells_length, seg_len dl pos k h.2]; show _ = min _ _; omega) (fun _ => ⟨rfl, _, rfl, by exact src_seg HC.out HK.out.2⟩) (by have h := HK.out; have := HF.out; rw [byteCells_length, seg_len dl pos k h.2]; omega) (cells_one _) ?_; intro w2 hg2 hf2)
  all_goals (have hf0 : Fr (fun i => i = g) w w2 := ⟨hf2.out.os, hf2.out.tape, hf2.out.output, hf2.out.size, hf2.out.block⟩)
  all_goals (have hr2 : w2.heap[rb]? = _ := (hf0.block rb (Array.getElem?_eq_some_iff.1 HR.out).1 (fun e => HBs.out.2.2.2 e.symm)).trans HR.out)
  all_goals (have d1 : w2.cell? ⟨rb, 1, none⟩ = some (.int .i64 pos) := by simp [World.cell?, hr2])
  all_goals (have d2 : w2.frozen? ⟨rb, 1, none⟩ = false := by simp [World.frozen?, hr2])
  all_goals (have HF0 := keep hf0)
  all_goals (have HR2 := keep hr2)
  all_goals clear hf2 hf0 hr2
  all_goals (go_wp2_with fail)
  all_goals go_ret2
  all_goals exact ⟨rfl, rd_fin HR2.out hg2.out HBs.out.2.2.2 HF0.out (by omega)⟩

/-- how many bytes one Read hands out. -/
def cnt (ch m a : Nat) : Nat := min (min a ch) m
theorem rd_some {rb g off m pc B ch pos : Nat} {t : TypeId} {cur : List Value} {dv ev : Value} {dl : List UInt8} (w : World) (hm : 0 < m) (hm2 : m ≤ 100000000) (hdl : dl.length ≤ 1048576) (hch : 1 ≤ ch ∧ ch ≤ 7) (hp : pos < dl.length)
    (hd : DAt B w dv dl) (hr : RdAt w rb dv pos ch ev) (hg : w.heap[g]? = some (.cells cur.toArray t (0, 0))) (hne : g ≠ rb) (hfit : off + m ≤ cur.length) (hBr : B ≤ rb) (hBg : B ≤ g) :
    Calls Ybad.prog 58 #[.pointer (some ⟨rb, 0, none⟩), .slice (some ⟨g, off, none⟩) m pc] w fun e w' => e = .returned (.tuple #[.int .i64 (cnt ch m (dl.length - pos)), .nilIface]) ∧ RdAt w' rb dv (pos + cnt ch m (dl.length - pos)) ch ev ∧ w'.heap[g]? = some (.cells (splice cur off (byteCells (seg dl pos (cnt ch m (dl.length - pos))))).toArray t (0, 0)) ∧ Fr (fun i => i = rb ∨ i = g) w w' := by
  unfold cnt
  by_cases h1 : dl.length - pos ≤ ch
  · by_cases h2 : dl.length - pos ≤ m
    · exact rd_all w hm hm2 hdl hch hp h1 h2 (by omega) hd hr hg hne hfit hBr hBg
    · exact rd_room w hm hm2 hdl hch hp h1 (by omega) (by omega) hd hr hg hne hfit hBr hBg
  · by_cases h2 : ch ≤ m
    · exact rd_chunk w hm hm2 hdl hch hp (by omega) h2 (by omega) hd hr hg hne hfit hBr hBg
    · exact rd_rooms w hm hm2 hdl hch hp (by omega) (by omega) (by omega) hd hr hg hne hfit hBr hBg
end Go.Proofs.YbulkgdyuDoor.C
