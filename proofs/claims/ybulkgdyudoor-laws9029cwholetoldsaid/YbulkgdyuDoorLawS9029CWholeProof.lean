/-
  THE TOLD AND TIED CARD OF 'resp.LawS9029CWhole': from the walk (YbulkgdyuDoorWalkLa) to 'ReturnsInTold', and the builder's call with the given tie.
-/
import Derived.Test.YbulkgdyuDoorWalkLa
import Derived.Test.YbulkgdyuDoorCards
import Derived.Test.YbulkgdyuDoorTie
import Derived.ProofKit
import Derived.OpenShut
import Derived.ShutString
import Derived.ChangeOld
import Derived.LaidLaws
import Derived.LaidHandle
import Derived.Stop.JoinedAt
import Derived.Stop.JoinedTold
import Derived.Stop.Texts
import Derived.SizedLaws
import Derived.SevenTiedAt
namespace Go.Proofs.YbulkgdyuDoor.lawS9029CWhole
open Go.ChangeShapes Go.WideShapes Go.ChangeAt Go.RowKit
open Go.ChangeMaps (open_string shut_string)
open Go.Extern.Stop Go.Stop Go.Extern
open Go.Proofs.YbulkgdyuDoor.C (Ev DAt law_any)
open Go.Proofs.YbulkgdyuDoor (RowB)

theorem own : ownKnob Ybad.prog.godebug = none := by kernel_rfl
theorem laidOut : laidOutB Ybad.prog = true := by kernel_rfl
theorem bytes5 : Ybad.prog.bytesOf 5 = 1 := by kernel_rfl
theorem cells55 : Ybad.prog.cellsOf 55 = 1 := by kernel_rfl
theorem cells9 : Ybad.prog.cellsOf 9 = 1 := by kernel_rfl
/-- the name under which the given rows lay the errors. -/
def ifaceName : DataW Unit → String
  | .iface n _ => n
  | _ => "none"
abbrev es : String := ifaceName Rows.laid_io_EOF
theorem star (s : String) (h : s = String.singleton '*') : s ++ "errors.errorString" = es := by subst h; kernel_rfl
theorem row53 (u : TypeId) (h : Ybad.prog.typeName? 3 u = some es) : u = 53 := by
  refine typeName_ptr_named (P := Ybad.prog) (nm := "errors.errorString") ?_ (by kernel_rfl) (by decide) u ?_
  · rw [star]
    · kernel_rfl
    · kernel_rfl
  · rw [star]
    · exact h
    · kernel_rfl
theorem g0 : Ybad.prog.globalNamed "io.EOF" = some 0 := by kernel_rfl
theorem g1 : Ybad.prog.globalNamed "io.ErrUnexpectedEOF" = some 1 := by kernel_rfl
theorem gt0 : (Ybad.prog.globals[0]?).map (·.type) = some 38 := by kernel_rfl
theorem gt1 : (Ybad.prog.globals[1]?).map (·.type) = some 38 := by kernel_rfl

abbrev laid5 : List (String × DataW Unit) := Rows.lawS9029CWholeRow.laid

set_option maxRecDepth 100000 in
/-- one sentinel: its variable's cell and the block it points to. -/
theorem sent {W : World} {n : String} {g : Nat} {t : TypeId} {fuel : Nat} {cs : Array Value} {text : List UInt8} {p ps : List MemPlace} (enc : TypeId × Value → Unit) {sp : Nat → Bool} (hg : Ybad.prog.globalNamed n = some g) (ht : t = 38) (hv : W.var? Ybad.prog n = some cs)
    (hd : DataW.trod enc Ybad.prog W 0 sp false fuel t cs.toList = some (.iface es (.ptr (.agg [.lit (.string text)])), p))
    (hr : ∀ b off, MemPlace.cell b off ∈ ps → (∃ c t, W.heap[b]? = some (.cells c t (0, 0))) ∧ ∀ u v, W.cell? ⟨b, off, none⟩ = some (.iface u v) → Value.okWide Ybad.prog W .any 0 u v)
    (h1 : ∀ x ∈ MemPlace.row ⟨g, 0, none⟩ cs.size, x ∈ ps) (h2 : ∀ x ∈ p, x ∈ ps) :
    ∃ (a : Addr), W.cell? ⟨g, 0, none⟩ = some (Ev a) ∧ (∃ c t, W.heap[a.block]? = some (.cells c t (0, 0))) ∧ p = MemPlace.row a 1 ∧ W.cell? a ≠ Option.none := by
  subst ht
  obtain ⟨l⟩ := cs
  have ok : ∀ u v, l = [.iface u v] → Value.okWide Ybad.prog W .any 0 u v := fun u v e => by
    subst e
    exact (hr g 0 (h1 _ (by simp [MemPlace.row]))).2 u v (by simpa using World.var?_cell hg hv 0)
  obtain ⟨a, s, rfl, hc, hs, hz, rfl⟩ := errorString_of_trod Ybad.underlying38 row53 Ybad.underlying53 Ybad.underlying55 rfl rfl Ybad.underlying9 cells55 cells9 hd ok
  refine ⟨a, by simpa using World.var?_cell hg hv 0, (hr a.block a.off (h2 _ (by simp [MemPlace.row]))).1, rfl, by rw [hc]; simp⟩

set_option maxRecDepth 100000 in
theorem sents {W : World} (h : laidMetH Ybad.prog laid5 W) : ∃ eo un : Addr, W.cell? ⟨0, 0, none⟩ = some (Ev eo) ∧ W.cell? ⟨1, 0, none⟩ = some (Ev un) ∧ un ≠ eo ∧ (∃ ca ta, W.heap[eo.block]? = some (.cells ca ta (0, 0))) ∧ ∃ ca ta, W.heap[un.block]? = some (.cells ca ta (0, 0)) := by
  have h' : laidMet Ybad.prog laid5 W := h
  obtain ⟨ps, ⟨ga, ta, csa, fa, pa, qa, hga, hta, hva, hda, ⟨gb, tb, csb, fb, pb, qb, hgb, htb, hvb, hdb, ⟨gc, tc, csc, fc, pc, qc, hgc, htc, hvc, hdc, hq, ec⟩, eb⟩, ea⟩, hnd, hrows⟩ := h'
  obtain rfl := Option.some.inj (g0.symm.trans hgb)
  obtain rfl := Option.some.inj (g1.symm.trans hgc)
  have htb' := Option.some.inj (gt0.symm.trans htb)
  have htc' := Option.some.inj (gt1.symm.trans htc)
  have hmb : ∀ x, x ∈ MemPlace.row ⟨0, 0, Option.none⟩ csb.size ∨ x ∈ pb → x ∈ ps := fun x hx => by
    rw [ea, eb]
    rcases hx with hx | hx <;> simp [hx]
  have hmc : ∀ x, x ∈ MemPlace.row ⟨1, 0, Option.none⟩ csc.size ∨ x ∈ pc → x ∈ ps := fun x hx => by
    rw [ea, eb, ec]
    rcases hx with hx | hx <;> simp [hx]
  obtain ⟨eo, c0, b0, p0, n0⟩ := sent _ g0 htb'.symm hvb hdb hrows (fun x hx => hmb x (Or.inl hx)) (fun x hx => hmb x (Or.inr hx))
  obtain ⟨un, c1, b1, p1, n1⟩ := sent _ g1 htc'.symm hvc hdc hrows (fun x hx => hmc x (Or.inl hx)) (fun x hx => hmc x (Or.inr hx))
  refine ⟨eo, un, c0, c1, fun e => ?_, b0, b1⟩
  subst e
  rw [ea, eb, ec, p0, p1] at hnd
  have h1 := (List.nodup_append.1 hnd).2.1
  have h2 := (List.nodup_append.1 h1).2.2
  exact h2 (.cell un.block un.off) (by simp [MemPlace.row]) (.cell un.block un.off) (by simp [MemPlace.row]) rfl

abbrev t0 : ByteArray := { data := #[69, 79, 70] }
abbrev t1 : ByteArray := { data := #[117, 110, 101, 120, 112, 101, 99, 116, 101, 100, 32, 69, 79, 70] }
abbrev t2 : ByteArray := { data := #[98, 117, 102, 105, 111, 58, 32, 114, 101, 97, 100, 101, 114, 32, 114, 101, 116, 117, 114, 110, 101, 100, 32, 110, 101, 103, 97, 116, 105, 118, 101, 32, 99, 111, 117, 110, 116, 32, 102, 114, 111, 109, 32, 82, 101, 97, 100] }
abbrev t3 : ByteArray := { data := #[109, 117, 108, 116, 105, 112, 108, 101, 32, 82, 101, 97, 100, 32, 99, 97, 108, 108, 115, 32, 114, 101, 116, 117, 114, 110, 32, 110, 111, 32, 100, 97, 116, 97, 32, 111, 114, 32, 101, 114, 114, 111, 114] }
abbrev t4 : ByteArray := { data := #[115, 104, 111, 114, 116, 32, 98, 117, 102, 102, 101, 114] }
def low (P : Program) : Nat := (World.holding P default ⟨#[], #[], []⟩).heap.size
/-- a world that meets the condition. -/
def laidWorld (P : Program) (os : Os) : World :=
  let w0 := World.holding P os ⟨#[.cells #[.string t0] 55, .cells #[.string t1] 55, .cells #[.string t2] 55, .cells #[.string t3] 55, .cells #[.string t4] 55], #[], []⟩
  let put (h : Array Obj) (g : Nat) (i : Nat) : Array Obj := h.modify g fun
    | .cells _ t frozen => .cells #[.iface 53 (.pointer (some ⟨low P + i, 0, Option.none⟩))] t frozen
    | o => o
  { w0 with heap := put (put (put (put (put w0.heap 0 0) 1 1) 2 2) 3 3) 4 4 }
theorem laidWorld_met (os : Os) (args : Array Value) : laidMetH Ybad.prog laid5 ((laidWorld Ybad.prog os).forCall (fun _ _ => 0) ⟨#[], args, []⟩).memory :=
  laidMetH_of_parts (laidMet_of_run (ps := [.cell 4 0, .cell (low Ybad.prog + 4) 0, .cell 0 0, .cell (low Ybad.prog + 0) 0, .cell 1 0, .cell (low Ybad.prog + 1) 0, .cell 3 0, .cell (low Ybad.prog + 3) 0, .cell 2 0, .cell (low Ybad.prog + 2) 0]) 8 (by kernel_rfl) (by kernel_rfl) (by kernel_rfl)) (by kernel_rfl)

/-- a slice of bytes that came in. -/
theorem bytes_in {W : World} {x : Addr} {len cap : Nat} {zs : List Int} (hlen : len ≤ cap) (hz : zs.length = cap) (hcell : ∀ i, i < zs.length → W.cell? (x.add i) = some (.int .u8 (zs.getD i 0))) (hwz : ∀ n ∈ zs, (Lit.int .u8 n).wf = true) :
    ∃ l : List UInt8, l.length = len ∧ RowB W.heap.size W (.slice (some x) l.length cap) l ∧ DAt W.heap.size W (.slice (some x) l.length cap) l := by
  have wf8 : ∀ z, (Lit.int .u8 z).wf = true → 0 ≤ z ∧ z ≤ 255 := fun z h => by
    simp [Lit.wf, IntKind.min, IntKind.max, IntKind.signed, IntKind.bits] at h; omega
  have hv : ∀ i, i < len → ((UInt8.ofNat (zs.getD i 0).toNat).toNat : Int) = zs.getD i 0 := fun i hi => by
    have e : zs.getD i 0 = zs[i]'(by omega) := by simp [show i < zs.length by omega]
    have h1 := wf8 _ (hwz _ (List.getElem_mem (show i < zs.length by omega)))
    rw [e, UInt8.toNat_ofNat']
    omega
  have hll : ((zs.take len).map fun z => UInt8.ofNat z.toNat).length = len := by simp; omega
  have hget : ∀ i (h : i < ((zs.take len).map fun z => UInt8.ofNat z.toNat).length), (((zs.take len).map fun z => UInt8.ofNat z.toNat)[i]'h) = UInt8.ofNat (zs.getD i 0).toNat := fun i h => by
    have h' : i < zs.length := by simp at h; omega
    simp [h']
  have hspot : 0 < len → x.spot = Option.none := fun h0 => by
    have c0 := hcell 0 (by omega)
    obtain ⟨b, off, spot⟩ := x
    cases spot with
    | none => rfl
    | some s =>
      exfalso
      simp only [Addr.add, if_true, World.cell?, Option.isSome_some] at c0
      split at c0 <;> simp at c0
  refine ⟨(zs.take len).map fun z => UInt8.ofNat z.toNat, hll, Or.inr ⟨x, cap, rfl, fun h0 => ?_, fun j u hu => ?_⟩, ⟨_, _, rfl⟩, fun h0 => ?_⟩
  · have := World.block_lt_of_cell? _ _ (hcell 0 (by omega))
    rwa [add_block] at this
  · have hj : j < ((zs.take len).map fun z => UInt8.ofNat z.toNat).length := by
      have := (List.getElem?_eq_some_iff.1 hu).1
      rwa [Lib.byteCells_length] at this
    rw [hcell j (by omega), ← hv j (by omega)]
    simp only [Lib.byteCells, List.getElem?_map, List.getElem?_eq_getElem hj, hget j hj, Option.map_some, Option.some.injEq] at hu
    rw [← hu]
  · rw [hll] at h0
    have hs := hspot h0
    have hb := World.block_lt_of_cell? _ _ (hcell 0 (by omega))
    rw [add_block] at hb
    obtain ⟨b, off, spot⟩ := x
    subst hs
    refine ⟨b, off, cap, rfl, by omega, hb, fun j hj => ?_⟩
    rw [hget j hj, hv j (by omega), ← hcell j (by omega)]
    congr 1
    unfold Addr.add
    split <;> simp_all
theorem bytes_nil (W : World) : RowB W.heap.size W (.slice Option.none ([] : List UInt8).length 0) [] ∧ DAt W.heap.size W (.slice Option.none ([] : List UInt8).length 0) [] :=
  ⟨Or.inl ⟨rfl, rfl⟩, ⟨_, _, rfl⟩, fun h => absurd h (Nat.lt_irrefl 0)⟩

set_option maxRecDepth 100000 in
theorem lifted (os : Os) (started : os.Started) (H : Type) (enc : TypeId × Value → H) :
    ReturnsInTold Option.none {} Ybad.checked os 4 .any Input.okWide ((OpenSpec.ofChange Rows.lawS9029CWholeSpec).preRow enc Ybad.prog Ybad.f4 [] false laid5) (fun F => ((OpenSpec.ofChange Rows.lawS9029CWholeSpec).at F).post enc Ybad.prog Ybad.f4 false true false false) (aloneAtReturn Ybad.prog) nothingAlways := by
  refine returnsInTold_of_row (C := Ybad.checked) (s := OpenSpec.ofChange Rows.lawS9029CWholeSpec) (by kernel_rfl) own started (by kernel_rfl) Ybad.func4
    (OpenSpec.witness_stopped_at (enc := enc) (C := Ybad.checked) false (laidWorld Ybad.prog os) #[.slice Option.none 0 0, .slice Option.none 0 0, .int .i64 0, .int .u8 0, .bool false] rfl (by kernel_rfl) (by kernel_rfl) (by kernel_rfl)
      (OpenSpec.preRow_of_B rfl 8 (by kernel_rfl) (by kernel_rfl) (laidWorld_met os _))) ?_
  intro F W base args ds gs before _ hF hval0 hW _ _ hsz0 hL _
  have hval : ∀ (j : Nat) t v, Ybad.f4.params[j]? = some t → args[j]? = some v → Value.okWide Ybad.prog W .any base t v := hval0
  have hsz : (DataW.weightsEach Ybad.prog (Ybad.f4.params.toList ++ (OpenSpec.ofChange Rows.lawS9029CWholeSpec).bare.plain.varTypes Ybad.prog) (ds ++ gs)).all (· ≤ reachBytes) = true := hsz0
  have hW' := hW
  obtain ⟨p, q, hA0, hV, rfl, hfz, hnd⟩ := hW
  have hA : DataW.TrodAll enc Ybad.prog W 0 (fun _ => true) true Ybad.f4.params.toList args.toList ds p := hA0
  rw [Ybad.params4] at hA hval hsz
  obtain ⟨v0, vs0, d0, ds0, p0, q0, hargs, rfl, rfl, h0, r0⟩ := trodAll_cons hA
  obtain ⟨v1, vs1, d1, ds1, p1, q1, rfl, rfl, rfl, h1, r1⟩ := trodAll_cons r0
  obtain ⟨v2, vs2, d2, ds2, p2, q2, rfl, rfl, rfl, h2, r2⟩ := trodAll_cons r1
  obtain ⟨v3, vs3, d3, ds3, p3, q3, rfl, rfl, rfl, h3, r3⟩ := trodAll_cons r2
  obtain ⟨v4, vs4, d4, ds4, p4, q4, rfl, rfl, rfl, h4, r4⟩ := trodAll_cons r3
  obtain ⟨rfl, rfl, rfl⟩ := trodAll_nil r4
  obtain rfl : args = #[v0, v1, v2, v3, v4] := by cases args; simp_all
  obtain ⟨rfl, rfl⟩ := trodVars_none hV
  obtain ⟨eo, un, c0, c1, hne, hbo, hbu⟩ := sents hL
  obtain ⟨a0, len0, cap0, rfl⟩ := okWide_slice Ybad.underlying22 (hval 0 22 v0 rfl rfl)
  obtain ⟨a1, len1, cap1, rfl⟩ := okWide_slice Ybad.underlying22 (hval 1 22 v1 rfl rfl)
  obtain ⟨n, rfl, rfl, rfl, wn⟩ := open_int Ybad.underlying2 (hval 2 2 v2 rfl rfl) h2
  obtain ⟨ch, rfl, rfl, rfl, wch⟩ := open_int Ybad.underlying5 (hval 3 5 v3 rfl rfl) h3
  obtain ⟨b, rfl, rfl, rfl⟩ := open_bool Ybad.underlying4 (hval 4 4 v4 rfl rfl) h4
  have k0 := h0
  have k1 := h1
  have lt0 : ∀ x ∈ p0, x.block < W.heap.size := by obtain ⟨m, hm⟩ := k0; exact DataW.trod_lt m _ _ _ hm
  have lt1 : ∀ x ∈ p1, x.block < W.heap.size := by obtain ⟨m, hm⟩ := k1; exact DataW.trod_lt m _ _ _ hm
  obtain ⟨n0, n1⟩ : -9223372036854775808 ≤ n ∧ n ≤ 9223372036854775807 := by
    simp [Lit.wf, IntKind.min, IntKind.max, IntKind.signed, IntKind.bits] at wn
    omega
  obtain ⟨cz, rfl, hcz⟩ : ∃ cz : Nat, ch = (cz : Int) ∧ cz < 256 := by
    have h : 0 ≤ ch ∧ ch ≤ 255 := by simp [Lit.wf, IntKind.min, IntKind.max, IntKind.signed, IntKind.bits] at wch; omega
    exact ⟨ch.toNat, by omega, by omega⟩
  have hrb : reachBytes = 140737488351232 := rfl
  obtain ⟨pl, hpl, hpr, hpd, hr0⟩ : ∃ l : List UInt8, l.length = len0 ∧ RowB W.heap.size W (.slice a0 l.length cap0) l ∧ DAt W.heap.size W (.slice a0 l.length cap0) l ∧ len0 ≤ reachBytes := by
    obtain ⟨fuel, hf⟩ := h0
    rcases open_ints Ybad.underlying22 Ybad.underlying5 (by kernel_rfl) hf with ⟨hcs, hx⟩ | ⟨x, l, c, zs, hcs, _, hl, hm, hz, hx, hcell, hwz⟩
    · simp [Value.cells] at hcs
      obtain ⟨rfl, rfl, rfl⟩ := hcs
      exact ⟨[], rfl, (bytes_nil W).1, (bytes_nil W).2, Nat.zero_le _⟩
    · simp [Value.cells] at hcs
      obtain ⟨rfl, rfl, rfl⟩ := hcs
      simp only [Prod.mk.injEq] at hx
      obtain ⟨rfl, rfl⟩ := hx
      have := sized_slice hsz (j := 0) (t := 22) (e := 5) rfl rfl Ybad.underlying22
      rw [bytes5] at this
      simp only [lits, List.length_map, List.length_take, List.length_drop] at this
      have hz' : zs.length = cap0 := by simpa using hz
      obtain ⟨l, q1, q2, q3⟩ := bytes_in hl hz' hcell hwz
      exact ⟨l, q1, q2, q3, by omega⟩
  obtain ⟨dl, hdl, hdr, hdd, hr1⟩ : ∃ l : List UInt8, l.length = len1 ∧ RowB W.heap.size W (.slice a1 l.length cap1) l ∧ DAt W.heap.size W (.slice a1 l.length cap1) l ∧ len1 ≤ reachBytes := by
    obtain ⟨fuel, hf⟩ := h1
    rcases open_ints Ybad.underlying22 Ybad.underlying5 (by kernel_rfl) hf with ⟨hcs, hx⟩ | ⟨x, l, c, zs, hcs, _, hl, hm, hz, hx, hcell, hwz⟩
    · simp [Value.cells] at hcs
      obtain ⟨rfl, rfl, rfl⟩ := hcs
      exact ⟨[], rfl, (bytes_nil W).1, (bytes_nil W).2, Nat.zero_le _⟩
    · simp [Value.cells] at hcs
      obtain ⟨rfl, rfl, rfl⟩ := hcs
      simp only [Prod.mk.injEq] at hx
      obtain ⟨rfl, rfl⟩ := hx
      have := sized_slice hsz (j := 1) (t := 22) (e := 5) rfl rfl Ybad.underlying22
      rw [bytes5] at this
      simp only [lits, List.length_map, List.length_take, List.length_drop] at this
      have hz' : zs.length = cap1 := by simpa using hz
      obtain ⟨l, q1, q2, q3⟩ := bytes_in hl hz' hcell hwz
      exact ⟨l, q1, q2, q3, by omega⟩
  subst hpl
  subst hdl
  clear hA0 hval0
  refine (law_any n cz b W n0 n1 hcz (by omega) (by omega) hpr hdr hdd c0 c1 hne hbo hbu).mono fun e W' ⟨he, bel⟩ => ?_
  subst he
  exact ⟨_, rfl, _, _, _, [], _, [], hW', trodAll_mk1 (shut_bool Ybad.underlying4 _), (trodAll_cons_mk (Below.trod laidOut (by kernel_rfl) (of_decide_eq_true (by kernel_rfl)) k0 bel lt0) (trodAll_cons_mk (Below.trod laidOut (by kernel_rfl) (of_decide_eq_true (by kernel_rfl)) k1 bel lt1) (trodAll_cons_mk (shut_int Ybad.underlying2 wn) (trodAll_cons_mk (shut_int Ybad.underlying5 wch) (trodAll_cons_mk (shut_bool Ybad.underlying4 _) trodAll_mk0))))), rfl, bel.frame _, fun h => by cases h⟩

theorem stops : Ybad.pinned.checked.prog.stops = Rows.lawS9029CWholeRow.stops := by kernel_rfl
theorem stopKnobs : Ybad.pinned.checked.prog.stopKnobs = [] := by kernel_rfl
theorem quiet (os : Os) : Stop.quiet Ybad.pinned.checked.prog os := by
  intro k hk
  rw [stopKnobs] at hk
  cases hk

theorem proved : Rows.LawS9029CWholeToldSaid :=
  Claim7.holds_of_told_tied_any_at .later 4 Ybad.f4 "fmt.Sprintf" Rows.lawS9029CWholeRow.stops.tail [] _ _ _ _ _ (by kernel_rfl) rfl rfl rfl laidOut (by kernel_rfl) rfl ⟨rfl, rfl, rfl, rfl, rfl, rfl, rfl⟩ rfl rfl (by kernel_rfl) (by kernel_rfl) Ybad.func4 (by kernel_rfl)
    (of_decide_eq_true (by kernel_rfl)) (of_decide_eq_true (by kernel_rfl)) stops.symm rfl stopKnobs.symm (by kernel_rfl)
    (by kernel_rfl) (by kernel_rfl) (by kernel_rfl) (by kernel_rfl) (by kernel_rfl) (by kernel_rfl) (by kernel_rfl) (by kernel_rfl) (by kernel_rfl) rfl (by kernel_rfl) rfl rfl
    rfl rfl
    rfl (by kernel_rfl) (by kernel_rfl) (by kernel_rfl) (by decide) (by kernel_rfl) lawS9029CWhole_row_tie
    (OpenClaim.moreEntering_of (by kernel_rfl) (by kernel_rfl) (by kernel_rfl) (by kernel_rfl) (by kernel_rfl) (by kernel_rfl) (by kernel_rfl) (by kernel_rfl) (by kernel_rfl) (by kernel_rfl))
    ⟨_, WideRow.started_initial, quiet _⟩
    (fun os started _ H enc _ => lifted os started H enc)
end Go.Proofs.YbulkgdyuDoor.lawS9029CWhole
