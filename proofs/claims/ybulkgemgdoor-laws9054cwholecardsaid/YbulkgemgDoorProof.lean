/-
  THE TIED CARD OF 'bindwright.LawS9054CWhole': from the walk (YbulkgemgDoorWalkE) to the row, and the builder's call with the given tie.
-/
import Derived.Test.YbulkgemgDoorWalkE
import Derived.Test.YbulkgemgDoorCards
import Derived.Test.YbulkgemgDoorTie
import Derived.ProofKit
import Derived.OpenShut
import Derived.ChangeSame
import Derived.ChangeVars
import Derived.JoinedOf
import Derived.RowKit
import Derived.RowKitTokens
import Derived.LaidLaws
import Derived.LaidHandle
import Derived.Stop.Joined
import Derived.SevenTiedAt
namespace Go.Proofs.YbulkgemgDoor.lawS9054CWhole
open Go.ChangeShapes Go.WideShapes Go.ChangeAt Go.RowKit

theorem own : ownKnob Ybad.prog.godebug = none := by kernel_rfl
theorem laidOut : laidOutB Ybad.prog = true := by kernel_rfl
/-- the name of the one variable that the given row lists. -/
abbrev skipN : String := (Rows.lawS9054CWholeRow.laid.map (·.1)).headD "none"
theorem skipNamed : Ybad.prog.globalNamed skipN = some 0 := by kernel_rfl
theorem skipType : (Ybad.prog.globals[0]?).map (·.type) = some 36 := by kernel_rfl
theorem cells48 : Ybad.prog.cellsOf 48 = 1 := by kernel_rfl
theorem cells9 : Ybad.prog.cellsOf 9 = 1 := by kernel_rfl
/-- the name under which the given row lays the error. -/
def ifaceName : DataW Unit → String
  | .iface n _ => n
  | _ => "none"
abbrev es : String := ifaceName Rows.laid_example_com_bindwright_bindwright_SkipOperand
theorem star (s : String) (h : s = String.singleton '*') : s ++ "errors.errorString" = es := by subst h; kernel_rfl
theorem row46 (u : TypeId) (h : Ybad.prog.typeName? 3 u = some es) : u = 46 := by
  refine typeName_ptr_named (P := Ybad.prog) (nm := "errors.errorString") ?_ (by kernel_rfl) (by decide) u ?_
  · rw [star]
    · kernel_rfl
    · kernel_rfl
  · rw [star]
    · exact h
    · kernel_rfl

abbrev laid1 : List (String × DataW Unit) := Rows.lawS9054CWholeRow.laid

/-- what the condition gives the walk: the variable's cell and the block it points to. -/
theorem skip_of_laid {W : World} (h : laidMetH Ybad.prog laid1 W) :
    ∃ (a : Addr) (c : Array Value) (t : TypeId), W.var? Ybad.prog skipN = some #[.iface 46 (.pointer (some a))] ∧ W.heap[a.block]? = some (.cells c t (0, 0)) := by
  have h' : laidMet Ybad.prog laid1 W := h
  obtain ⟨ps, ⟨g0, t0, cs0, f0, p0, q0, hg0, ht0, hv0, hd0, hq0, e0⟩, hnd, hrows⟩ := h'
  obtain rfl := Option.some.inj (skipNamed.symm.trans hg0)
  obtain rfl := Option.some.inj (skipType.symm.trans ht0)
  have hq0' : q0 = [] := hq0
  subst hq0'
  subst e0
  obtain ⟨l0⟩ := cs0
  have ok0 : ∀ u v, l0 = [.iface u v] → Value.okWide Ybad.prog W .any 0 u v := fun u v e => by
    subst e
    exact (hrows 0 0 (by simp [MemPlace.row])).2 u v (by simpa using World.var?_cell hg0 hv0 0)
  obtain ⟨a0, s0, rfl, hc0, hs0, hz0, rfl⟩ := errorString_of_trod Ybad.underlying36 row46 Ybad.underlying46 Ybad.underlying48 rfl rfl Ybad.underlying9 cells48 cells9 hd0 ok0
  obtain ⟨c0, t0, hb0⟩ := (hrows a0.block a0.off (by simp [MemPlace.row])).1
  exact ⟨a0, c0, t0, hv0, hb0⟩

abbrev skipS : ByteArray := { data := #[98, 105, 110, 100, 119, 114, 105, 103, 104, 116, 58, 32, 115, 107, 105, 112, 32, 116, 104, 105, 115, 32, 111, 112, 101, 114, 97, 110, 100] }
def low (P : Program) : Nat := (World.holding P default ⟨#[], #[], []⟩).heap.size
/-- a world that meets the condition. -/
def laidWorld (P : Program) (os : Os) : World :=
  let w0 := World.holding P os ⟨#[.cells #[.string skipS] 48], #[], []⟩
  { w0 with heap := w0.heap.modify 0 fun
      | .cells _ t frozen => .cells #[.iface 46 (.pointer (some ⟨low P, 0, none⟩))] t frozen
      | o => o }
theorem laidWorld_met (os : Os) (args : Array Value) : laidMetH Ybad.prog laid1 ((laidWorld Ybad.prog os).forCall (fun _ _ => 0) ⟨#[], args, []⟩).memory :=
  laidMetH_of_parts (laidMet_of_run (ps := [.cell 0 0, .cell (low Ybad.prog) 0]) 8 (by kernel_rfl) (by kernel_rfl) (by kernel_rfl)) (by kernel_rfl)

theorem var_kept {W W' : World} {n : String} {cs : Array Value} (bel : Below W.heap.size W W') (h : W.var? Ybad.prog n = some cs) : W'.var? Ybad.prog n = some cs := by
  unfold World.var? at h ⊢
  cases hg : Ybad.prog.globalNamed n with
  | none => simp [hg] at h
  | some g =>
    simp only [hg, Option.bind_some] at h ⊢
    have hlt : g < W.heap.size := by
      rcases Nat.lt_or_ge g W.heap.size with h' | h'
      · exact h'
      · simp [Array.getElem?_eq_none h'] at h
    rw [bel.block g hlt]
    exact h

theorem vars_read {H : Type} (enc : TypeId × Value → H) {W : World} {x0 : Value} (h0 : W.var? Ybad.prog skipN = some #[x0]) (i0 : IsIface x0) (sp : Nat → Bool) :
    DataW.TrodVars enc Ybad.prog W sp [skipN] [tok enc x0] [.cell 0 0] :=
  ⟨0, 36, #[x0], 1, [], [], skipNamed, skipType, h0, trod_held Ybad.underlying36 i0 0, rfl, rfl⟩

/-- a row of unsigned numbers, as natural numbers. -/
theorem nat_row {W : World} {x : Addr} {k : IntKind} {len : Nat} {zs : List Int} (hl : len ≤ zs.length) (hcell : ∀ i, i < zs.length → W.cell? (x.add i) = some (.int k (zs.getD i 0))) (hpos : ∀ i, 0 ≤ zs.getD i 0) (h0 : 0 < len) :
    ∃ b off, some x = some ⟨b, off, none⟩ ∧ b < W.heap.size ∧ ∀ i, i < len → W.cell? ⟨b, off + i, none⟩ = some (.int k (((zs.getD i 0).toNat : Nat) : Int)) := by
  obtain ⟨b, off, spot⟩ := x
  have c0 := hcell 0 (by omega)
  have hs : spot = none := by
    cases spot with
    | none => rfl
    | some s =>
      exfalso
      simp only [Addr.add, if_true, World.cell?, Option.isSome_some] at c0
      split at c0 <;> simp at c0
  subst hs
  refine ⟨b, off, rfl, ?_, fun i hi => ?_⟩
  · have := World.block_lt_of_cell? _ _ c0
    simpa [Addr.add] using this
  · have ci := hcell i (by omega)
    rw [Int.toNat_of_nonneg (hpos i)]
    rw [← ci]
    congr 1
    unfold Addr.add
    split
    · rename_i h; subst h; rfl
    · rfl
theorem wf_range {k : IntKind} {zs : List Int} {m : Nat} (hm : ∀ z, (Lit.int k z).wf = true → 0 ≤ z ∧ z ≤ m) (h : ∀ n ∈ zs, (Lit.int k n).wf = true) (i : Nat) : 0 ≤ zs.getD i 0 ∧ zs.getD i 0 ≤ m := by
  by_cases hi : i < zs.length
  · have e : zs.getD i 0 = zs[i] := by simp [hi]
    rw [e]
    exact hm _ (h _ (List.getElem_mem hi))
  · have e : zs.getD i 0 = 0 := by simp [Nat.le_of_not_lt hi]
    rw [e]
    omega
theorem wf16 (z : Int) (h : (Lit.int .u16 z).wf = true) : 0 ≤ z ∧ z ≤ (65535 : Nat) := by
  simp [Lit.wf, IntKind.min, IntKind.max, IntKind.signed, IntKind.bits] at h; omega
theorem wf8 (z : Int) (h : (Lit.int .u8 z).wf = true) : 0 ≤ z ∧ z ≤ (255 : Nat) := by
  simp [Lit.wf, IntKind.min, IntKind.max, IntKind.signed, IntKind.bits] at h; omega

set_option maxRecDepth 100000 in
theorem lifted (os : Os) (started : os.Started) (H : Type) (enc : TypeId × Value → H) :
    ReturnsInHanded {} Ybad.checked os 3 .any (fun w args => (Rows.lawS9054CWholeSpec.pre enc Ybad.prog Ybad.f3 [] false w args ∧ laidMetH Ybad.prog laid1 w) ∧ sizedMet enc Ybad.prog Ybad.f3 (OpenSpec.ofChange Rows.lawS9054CWholeSpec) false w args)
      (Rows.lawS9054CWholeSpec.post enc Ybad.prog Ybad.f3 false true false false) := by
  refine returnsInHanded_of_change_and (C := Ybad.checked) (X := fun w _ => laidMetH Ybad.prog laid1 w) (fun _ _ _ hh h => h.of_heap hh) own started (by kernel_rfl) Ybad.func3
    (ChangeSpec.witness_at (enc := enc) (C := Ybad.checked) (os := os) (X := fun w _ => laidMetH Ybad.prog laid1 w) false (laidWorld Ybad.prog os) #[.slice none 0 0, .slice none 0 0] 8 rfl (by kernel_rfl) (by kernel_rfl) (by kernel_rfl) (by kernel_rfl) (by kernel_rfl) (laidWorld_met os _)) ?_
  intro W base args ds gs before hval0 hW _ _ hL _
  have hval : ∀ (j : Nat) t v, Ybad.f3.params[j]? = some t → args[j]? = some v → Value.okWide Ybad.prog W .any base t v := hval0
  have hW' := hW
  obtain ⟨p, q, hA0, hV0, rfl, hfz, hnd⟩ := hW
  have hA : DataW.TrodAll enc Ybad.prog W 0 (fun _ => true) true Ybad.f3.params.toList args.toList ds p := hA0
  have hV : DataW.TrodVars enc Ybad.prog W (fun _ => true) [skipN] gs q := hV0
  rw [Ybad.params3] at hA hval
  obtain ⟨v0, vs0, d0, ds0, p0, q0, hargs, rfl, rfl, h0, r0⟩ := trodAll_cons hA
  obtain ⟨v1, vs1, d1, ds1, p1, q1, rfl, rfl, rfl, h1, r1⟩ := trodAll_cons r0
  obtain ⟨rfl, rfl, rfl⟩ := trodAll_nil r1
  obtain rfl : args = #[v0, v1] := by cases args; simp_all
  obtain ⟨pa, ca, ta, hv, hb⟩ := skip_of_laid hL
  obtain ⟨rfl, rfl⟩ := hV.unique (vars_read enc hv trivial _)
  have hg : W.cell? ⟨0, 0, none⟩ = some (.iface 46 (.pointer (some pa))) := by simpa using World.var?_cell skipNamed hv 0
  obtain ⟨a0, len0, cap0, rfl⟩ := okWide_slice Ybad.underlying22 (hval 0 22 v0 rfl rfl)
  obtain ⟨a1, len1, cap1, rfl⟩ := okWide_slice Ybad.underlying23 (hval 1 23 v1 rfl rfl)
  have k0 := h0
  have k1 := h1
  have lt0 : ∀ x ∈ p0, x.block < W.heap.size := by obtain ⟨m, hm⟩ := k0; exact DataW.trod_lt m _ _ _ hm
  have lt1 : ∀ x ∈ p1, x.block < W.heap.size := by obtain ⟨m, hm⟩ := k1; exact DataW.trod_lt m _ _ _ hm
  obtain ⟨P, hP⟩ : ∃ P, ParAt W a0 len0 P := by
    obtain ⟨fuel, hf⟩ := h0
    rcases open_ints Ybad.underlying22 Ybad.underlying33 (by kernel_rfl) hf with ⟨hcs, hx⟩ | ⟨x, l, c, zs, hcs, _, hl, hm, hz, hx, hcell, hwz⟩
    · simp [Value.cells] at hcs
      obtain ⟨rfl, rfl, rfl⟩ := hcs
      exact ⟨fun _ => 0, fun _ => Nat.zero_le _, fun h => absurd h (Nat.lt_irrefl 0)⟩
    · simp [Value.cells] at hcs
      obtain ⟨rfl, rfl, rfl⟩ := hcs
      have hz' : zs.length = cap0 := by simpa using hz
      refine ⟨fun i => (zs.getD i 0).toNat, fun j => by have := wf_range wf16 hwz j; show (zs.getD j 0).toNat ≤ 65535; omega, fun h => nat_row (by omega) hcell (fun i => (wf_range wf16 hwz i).1) h⟩
  obtain ⟨A, hAct⟩ : ∃ A, len1 ≤ 1048576 → ActsAt W W.heap.size (.slice a1 len1 cap1) A := by
    obtain ⟨fuel, hf⟩ := h1
    rcases open_ints Ybad.underlying23 Ybad.underlying5 (by kernel_rfl) hf with ⟨hcs, hx⟩ | ⟨x, l, c, zs, hcs, _, hl, hm, hz, hx, hcell, hwz⟩
    · simp [Value.cells] at hcs
      obtain ⟨rfl, rfl, rfl⟩ := hcs
      exact ⟨fun _ => 0, fun _ => ⟨none, 0, 0, fun _ => 0, rfl, fun k => by simp, fun _ => Nat.zero_le _, Nat.zero_le _, fun h => absurd h (Nat.lt_irrefl 0)⟩⟩
    · simp [Value.cells] at hcs
      obtain ⟨rfl, rfl, rfl⟩ := hcs
      have hz' : zs.length = cap1 := by simpa using hz
      exact ⟨fun k => if k < len1 then (zs.getD k 0).toNat % 5 else 0, fun _ => ⟨_, len1, cap1, fun i => (zs.getD i 0).toNat, rfl, fun _ => rfl, fun j => by have := wf_range wf8 hwz j; show (zs.getD j 0).toNat ≤ 255; omega, by omega,
        fun h => nat_row (by omega) hcell (fun i => (wf_range wf8 hwz i).1) h⟩⟩
  clear hA0 hV0 hval0 h0 h1
  have whole : Calls Ybad.prog 3 #[.slice a0 len0 cap0, .slice a1 len1 cap1] W fun e w' => e = .returned (.bool true) ∧ Below W.heap.size W w' := by
    by_cases hl0 : len0 ≤ 4096
    · by_cases hl1 : len1 ≤ 1048576
      · exact law_walk W hl0 hl1 rfl hP (hAct hl1) hg ⟨ca, ta, hb⟩
      · exact law_big W (Or.inr (by omega))
    · exact law_big W (Or.inl (by omega))
  refine whole.mono fun e W' ⟨he, bel⟩ => ?_
  subst he
  have e1 : Rows.lawS9054CWholeSpec.fn H ([d0, d1] ++ [tok enc (.iface 46 (.pointer (some pa)))]) = { results := [.lit (.bool true)], args := [d0, d1], vars := [tok enc (.iface 46 (.pointer (some pa)))] } := by simp [Rows.lawS9054CWholeSpec]
  refine ⟨_, rfl, _, _, _, [], p0 ++ (p1 ++ []), [.cell 0 0], hW', ?_, ?_, ?_, bel.frame _, fun h => by cases h⟩
  · rw [e1]; exact trodAll_mk1 (shut_bool Ybad.underlying4 true)
  · rw [e1]
    exact trodAll_cons_mk (Below.trod laidOut (by kernel_rfl) (of_decide_eq_true (by kernel_rfl)) k0 bel lt0) (trodAll_cons_mk (Below.trod laidOut (by kernel_rfl) (of_decide_eq_true (by kernel_rfl)) k1 bel lt1) trodAll_mk0)
  · rw [e1]; exact vars_read enc (var_kept bel hv) trivial _

theorem holds : Rows.LawS9054CWholeSaid :=
  OpenClaim.holds_of_wide 3 Ybad.f3 rfl rfl rfl rfl rfl rfl rfl ⟨rfl, rfl, rfl, rfl, rfl⟩ rfl rfl rfl rfl rfl (by kernel_rfl) Ybad.func3 (by kernel_rfl)
    (of_decide_eq_true (by kernel_rfl)) (by unfold Func.isWrapper; rw [if_neg (of_decide_eq_false (by kernel_rfl))]; exact ⟨rfl, rfl⟩)
    (fun os started H enc _ => lifted os started H enc)

theorem proved : Rows.LawS9054CWholeCardSaid :=
  Claim7.holds_tied_plain_at .later [] [.sentinel] true (true, "c8da5faf731561307e01e8d8a8aae4c7349f1aaeb0795d55ad923ba15245583b") true
    holds (fun _ h => by cases h) (by kernel_rfl) (fun _ h => by cases h) lawS9054CWhole_row_tie rfl ⟨rfl, rfl⟩ (by kernel_rfl) rfl
    (fun f fn hf hfn => by
      obtain rfl : f = 3 := Option.some.inj ((show Ybad.prog.funcNamed Rows.lawS9054CWholeRow.func = some 3 by kernel_rfl).symm.trans hf) |>.symm
      obtain rfl : fn = Ybad.f3 := (Option.some.inj (Ybad.func3.symm.trans hfn)).symm
      exact ⟨by kernel_rfl, fun j t ht => by
        rw [Ybad.params3] at ht
        rcases j with _ | _ | j
        · obtain rfl : t = 22 := by simpa using ht.symm
          exact (show Ybad.prog.wantsStandIn 22 = false by kernel_rfl)
        · obtain rfl : t = 23 := by simpa using ht.symm
          exact (show Ybad.prog.wantsStandIn 23 = false by kernel_rfl)
        · simp at ht⟩)
    (by kernel_rfl)
end Go.Proofs.YbulkgemgDoor.lawS9054CWhole
