/-
  THE TOLD CARD OF 'bindwright.LawS9054BPart': the slice of structs that came in, opened; from the walks to 'ReturnsInTold'; the builder's call.
-/
import Derived.Test.YbulkgemgFmtWalkG
import Derived.Test.YbulkgemgFmtWalkH
import Derived.Test.YbulkgemgFmtWalkI
import Derived.Test.YbulkgemgFmtWalkJ
import Derived.Test.YbulkgemgFmtCards
import Derived.ProofKit
import Derived.ShutString
import Derived.ChangeOld
import Derived.Deep.Slices
import Derived.Stop.JoinedAt
import Derived.Stop.JoinedTold
import Derived.SizedLaws
import Derived.SevenToldRow
namespace Go.Proofs.YbulkgemgFmt.lawS9054BPart
open Go.ChangeShapes Go.WideShapes Go.ChangeAt Go.RowKit Go.Deep
open Go.ChangeMaps (open_string shut_string)
open Go.Extern.Stop Go.Stop Go.Extern
set_option linter.unusedSimpArgs false
set_option linter.unusedVariables false

theorem own : ownKnob Ybaf.prog.godebug = none := by kernel_rfl
theorem laidOut : laidOutB Ybaf.prog = true := by kernel_rfl
theorem cells25 : Ybaf.prog.cellsOf 25 = 3 := by kernel_rfl
theorem cells4 : Ybaf.prog.cellsOf 4 = 1 := by kernel_rfl
theorem cells3 : Ybaf.prog.cellsOf 3 = 1 := by kernel_rfl

set_option maxRecDepth 100000 in
theorem law_any (F : Interp) (kd sy : Int) (tx : ByteArray) (li co d md : Int) (a : Option Addr) (n cap : Nat) (I : Nat → Inp) (w : World) (hF : F.answers w.tape) (hl : n ≤ maxLen) (harg : ArgAny w a n I) (kd0 : 0 ≤ kd) (kd1 : kd ≤ 255) (sy0 : 0 ≤ sy) (sy1 : sy ≤ 255) (hwd : (Lit.int .i64 d).wf = true) :
    Calls Ybaf.prog 3 #[.int .u8 kd, .int .u8 sy, .string tx, .int .i32 li, .int .i32 co, .int .i64 d, .int .i64 md, .slice a n cap] w fun e w' => e = .returned (.bool true) ∧ w.grownBy w' none := by
  by_cases hbig : (1048576 : Int) < n
  · unfold maxLen at hl
    go_enter Ybaf.func3, Ybaf.ntmps3
    go_wp2
    go_ret
    exact ⟨rfl, World.grownBy.refl _ _⟩
  have hn : n ≤ 1048576 := by omega
  obtain ⟨N, J, hN, hNJ⟩ : ∃ (N : Nat) (J : Nat → Inp), 0 < N ∧ ((n = 0 ∧ N = 1 ∧ J = fun _ => ⟨0, false, 0⟩) ∨ (0 < n ∧ N = n ∧ J = I)) := by
    by_cases h0 : n = 0
    · exact ⟨1, _, by omega, Or.inl ⟨h0, rfl, rfl⟩⟩
    · exact ⟨n, I, by omega, Or.inr ⟨by omega, rfl, rfl⟩⟩
  obtain ⟨si, hsi⟩ := Int.eq_ofNat_of_zero_le (Int.emod_nonneg sy (b := (N : Int)) (by omega))
  have hsN : si < N := by have := Int.emod_lt_of_pos sy (b := (N : Int)) (by omega); omega
  by_cases hk2 : kd % 6 = 2
  · exact law_l2 F kd sy tx li co d md a n cap I w hF hn harg kd0 kd1 sy0 sy1 hwd N J hNJ si hsi hsN hk2
  by_cases hk1 : kd % 6 = 1
  · exact law_l1 F kd sy tx li co d md a n cap I w hF hn harg kd0 kd1 sy0 sy1 hwd N J hNJ si hsi hsN hk1
  by_cases hk0 : kd % 6 = 0
  · exact law_eof F kd sy tx li co d md a n cap I w hF hn harg kd0 kd1 sy0 sy1 hwd N J hNJ si hsi hsN hk0
  have k0 : (kd % 6 == 0) = false := beq_eq_false_iff_ne.2 hk0
  have k1 : (kd % 6 == 1) = false := beq_eq_false_iff_ne.2 hk1
  have k2 : (kd % 6 == 2) = false := beq_eq_false_iff_ne.2 hk2
  cases hbp : ((J si).bp == 0) with
  | true =>
    cases hop : (J si).op with
    | false => exact law_none F kd sy tx li co d md a n cap I w hF hn harg kd0 kd1 sy0 sy1 hwd N J hNJ si hsi hsN k0 k1 k2 hbp hop
    | true =>
      cases hdm : (d == md) with
      | true => exact law_deep_group F kd sy tx li co d md a n cap I w hF hn harg kd0 kd1 sy0 sy1 hwd N J hNJ si hsi hsN k0 k1 k2 hbp hop hdm
      | false => exact law_in_group F kd sy tx li co d md a n cap I w hF hn harg kd0 kd1 sy0 sy1 hwd N J hNJ si hsi hsN k0 k1 k2 hbp hop hdm
  | false =>
    cases hdm : (d == md) with
    | true => exact law_deep_prefix F kd sy tx li co d md a n cap I w hF hn harg kd0 kd1 sy0 sy1 hwd N J hNJ si hsi hsN k0 k1 k2 hbp hdm
    | false => exact law_in_prefix F kd sy tx li co d md a n cap I w hF hn harg kd0 kd1 sy0 sy1 hwd N J hNJ si hsi hsN k0 k1 k2 hbp hdm

section
variable {H : Type} {enc : TypeId × Value → H} {W : World}

set_option maxRecDepth 100000 in
/-- one element of the slice. -/
theorem elem25 {base : Nat} {spare : Nat → Bool} {held : Bool} {fuel : Nat} {cs : List Value} {d : DataW H} {pl : List MemPlace} (h : DataW.trod enc Ybaf.prog W base spare held fuel 25 cs = some (d, pl)) :
    ∃ x : Inp, cs = [.int .i64 x.bp, .bool x.op, .int .i64 x.cl] := by
  obtain ⟨xs, n, _, hx, hl, hlen, hf⟩ := DataW.trod_struct Ybaf.underlying25 h
  rw [cells25] at hl
  match cs, hl with
  | [c0, c1, c2], _ =>
    match xs, hlen with
    | [y0, y1, y2], _ =>
      have f0 : DataW.trod enc Ybaf.prog W base spare held n 3 (([c0, c1, c2].drop 0).take (Ybaf.prog.cellsOf 3)) = some y0 := hf 0 _ rfl
      rw [cells3] at f0
      have f1 : DataW.trod enc Ybaf.prog W base spare held n 4 (([c0, c1, c2].drop 1).take (Ybaf.prog.cellsOf 4)) = some y1 := hf 1 _ rfl
      rw [cells4] at f1
      have f2 : DataW.trod enc Ybaf.prog W base spare held n 3 (([c0, c1, c2].drop 2).take (Ybaf.prog.cellsOf 3)) = some y2 := hf 2 _ rfl
      rw [cells3] at f2
      obtain ⟨bp, e0, _, _⟩ := DataW.trod_int Ybaf.underlying3 f0
      obtain ⟨op, e1, _⟩ := DataW.trod_bool Ybaf.underlying4 f1
      obtain ⟨cl, e2, _, _⟩ := DataW.trod_int Ybaf.underlying3 f2
      simp at e0 e1 e2
      subst e0 e1 e2
      exact ⟨⟨bp, op, cl⟩, rfl⟩

/-- the slice that came in. -/
theorem open_arg {base fuel : Nat} {a : Option Addr} {len cap : Nat} {d : DataW H} {pl : List MemPlace}
    (h : DataW.trod enc Ybaf.prog W base (fun _ => true) true fuel 22 [.slice a len cap] = some (d, pl)) :
    len ≤ maxLen ∧ ∃ I, ArgAny W a len I := by
  rcases open_slice Ybaf.underlying22 h with ⟨hcs, hx⟩ | ⟨x, l, c, m, nf, D, Pl, hcs, _, hl, hm, hmm, hx, hel⟩
  · simp at hcs
    obtain ⟨rfl, rfl, rfl⟩ := hcs
    exact ⟨Nat.zero_le _, fun _ => ⟨0, false, 0⟩, Or.inl rfl⟩
  · simp at hcs
    obtain ⟨rfl, rfl, rfl⟩ := hcs
    simp only [if_true] at hmm
    subst hmm
    refine ⟨by omega, ?_⟩
    rw [cells25] at hel
    have hall : ∀ i, i < len → ∃ y : Inp, ∀ c, c < 3 → W.cell? ((x.add (i * 3)).add c) = [Value.int .i64 y.bp, .bool y.op, .int .i64 y.cl][c]? := by
      intro i hi
      obtain ⟨cs', hc, ht⟩ := hel i (by omega)
      obtain ⟨_, _, hcell⟩ := World.cells?_some hc
      obtain ⟨y, rfl⟩ := elem25 ht
      exact ⟨y, hcell⟩
    by_cases h0 : len = 0
    · exact ⟨fun _ => ⟨0, false, 0⟩, Or.inl h0⟩
    · obtain ⟨b, off, spot⟩ := x
      obtain ⟨y0, hc0⟩ := hall 0 (by omega)
      have hz := hc0 0 (by omega)
      have hspot : spot = none := by simpa [Addr.add] using World.cell?_spot hz
      subst hspot
      have hin : Inhabited Inp := ⟨⟨0, false, 0⟩⟩
      obtain ⟨I, hI⟩ := choose_lt hall
      refine ⟨I, Or.inr ⟨b, off, rfl, by simpa [Addr.add] using World.block_lt_of_cell? _ _ hz, fun i hi => ?_⟩⟩
      have g0 := hI i hi
      have e0 := g0 0 (by omega)
      have e1 := g0 1 (by omega)
      have e2 := g0 2 (by omega)
      simp only [add_plain, Nat.add_zero] at e0 e1 e2
      exact ⟨e0, e1, e2⟩
end

theorem grown_below {w w' : World} (h : w.grownBy w' none) : Below w.heap.size w w' := ⟨h.os, h.tape, h.output, h.size, fun k hk => h.block k hk (by simp)⟩

set_option maxRecDepth 100000 in
theorem lifted (os : Os) (started : os.Started) (H : Type) (enc : TypeId × Value → H) :
    ReturnsInTold none {} Ybaf.checked os 3 .any Input.okWide ((OpenSpec.ofChange Rows.lawS9054BPartSpec).preRow enc Ybaf.prog Ybaf.f3 [] false []) (fun F => ((OpenSpec.ofChange Rows.lawS9054BPartSpec).at F).post enc Ybaf.prog Ybaf.f3 false true false false) (aloneAtReturn Ybaf.prog) nothingAlways := by
  refine returnsInTold_of_row (C := Ybaf.checked) (s := OpenSpec.ofChange Rows.lawS9054BPartSpec) (by kernel_rfl) own started (by kernel_rfl) Ybaf.func3
    (OpenSpec.witness_stopped (enc := enc) (C := Ybaf.checked) false ⟨#[], #[.int .u8 0, .int .u8 0, .string ByteArray.empty, .int .i32 0, .int .i32 0, .int .i64 0, .int .i64 0, .slice none 0 0], []⟩ 8 (by kernel_rfl) (by kernel_rfl) (by kernel_rfl) (by kernel_rfl)) ?_
  intro F W base args ds gs before _ hF hval0 hW _ _ _ _ _
  have hval : ∀ (j : Nat) t v, Ybaf.f3.params[j]? = some t → args[j]? = some v → Value.okWide Ybaf.prog W .any base t v := hval0
  have hW' := hW
  obtain ⟨p, q, hA0, hV, rfl, hfz, hnd⟩ := hW
  have hA : DataW.TrodAll enc Ybaf.prog W 0 (fun _ => true) true Ybaf.f3.params.toList args.toList ds p := hA0
  rw [Ybaf.params3] at hA hval
  obtain ⟨v0, vs0, d0, ds0, p0, q0, hargs, rfl, rfl, h0, r0⟩ := trodAll_cons hA
  obtain ⟨v1, vs1, d1, ds1, p1, q1, rfl, rfl, rfl, h1, r1⟩ := trodAll_cons r0
  obtain ⟨v2, vs2, d2, ds2, p2, q2, rfl, rfl, rfl, h2, r2⟩ := trodAll_cons r1
  obtain ⟨v3, vs3, d3, ds3, p3, q3, rfl, rfl, rfl, h3, r3⟩ := trodAll_cons r2
  obtain ⟨v4, vs4, d4, ds4, p4, q4, rfl, rfl, rfl, h4, r4⟩ := trodAll_cons r3
  obtain ⟨v5, vs5, d5, ds5, p5, q5, rfl, rfl, rfl, h5, r5⟩ := trodAll_cons r4
  obtain ⟨v6, vs6, d6, ds6, p6, q6, rfl, rfl, rfl, h6, r6⟩ := trodAll_cons r5
  obtain ⟨v7, vs7, d7, ds7, p7, q7, rfl, rfl, rfl, h7, r7⟩ := trodAll_cons r6
  obtain ⟨rfl, rfl, rfl⟩ := trodAll_nil r7
  obtain rfl : args = #[v0, v1, v2, v3, v4, v5, v6, v7] := by cases args; simp_all
  obtain ⟨rfl, rfl⟩ := trodVars_none hV
  obtain ⟨a0, rfl, rfl, rfl, w0⟩ := open_int Ybaf.underlying5 (hval 0 5 v0 rfl rfl) h0
  obtain ⟨a1, rfl, rfl, rfl, w1⟩ := open_int Ybaf.underlying5 (hval 1 5 v1 rfl rfl) h1
  obtain ⟨a2, rfl, rfl, rfl, w2⟩ := open_string Ybaf.underlying9 (hval 2 9 v2 rfl rfl) h2
  obtain ⟨a3, rfl, rfl, rfl, w3⟩ := open_int Ybaf.underlying21 (hval 3 21 v3 rfl rfl) h3
  obtain ⟨a4, rfl, rfl, rfl, w4⟩ := open_int Ybaf.underlying21 (hval 4 21 v4 rfl rfl) h4
  obtain ⟨a5, rfl, rfl, rfl, w5⟩ := open_int Ybaf.underlying3 (hval 5 3 v5 rfl rfl) h5
  obtain ⟨a6, rfl, rfl, rfl, w6⟩ := open_int Ybaf.underlying3 (hval 6 3 v6 rfl rfl) h6
  obtain ⟨a7, len7, cap7, rfl⟩ := okWide_slice Ybaf.underlying22 (hval 7 22 v7 rfl rfl)
  have k7 := h7
  have lt7 : ∀ x ∈ p7, x.block < W.heap.size := by obtain ⟨m, hm⟩ := k7; exact DataW.trod_lt m _ _ _ hm
  obtain ⟨hlen, I, hI⟩ : len7 ≤ maxLen ∧ ∃ I, ArgAny W a7 len7 I := by
    obtain ⟨fuel, hf⟩ := h7
    exact open_arg (by simpa [Value.cells] using hf)
  clear hA0 hval0
  have bd0 := bounds_u8 w0
  have bd1 := bounds_u8 w1
  refine (law_any F.told a0 a1 a2 a3 a4 a5 a6 a7 len7 cap7 I W hF hlen hI bd0.1 bd0.2 bd1.1 bd1.2 w5).mono fun e W' ⟨he, hg⟩ => ?_
  have bel := grown_below hg
  subst he
  exact ⟨_, rfl, _, _, _, [], _, [], hW', trodAll_mk1 (shut_bool Ybaf.underlying4 _), (trodAll_cons_mk (shut_int Ybaf.underlying5 w0) (trodAll_cons_mk (shut_int Ybaf.underlying5 w1) (trodAll_cons_mk (shut_string Ybaf.underlying9 w2) (trodAll_cons_mk (shut_int Ybaf.underlying21 w3) (trodAll_cons_mk (shut_int Ybaf.underlying21 w4) (trodAll_cons_mk (shut_int Ybaf.underlying3 w5) (trodAll_cons_mk (shut_int Ybaf.underlying3 w6) (trodAll_cons_mk (Below.trod laidOut (by kernel_rfl) (of_decide_eq_true (by kernel_rfl)) k7 bel lt7) trodAll_mk0)))))))), rfl, bel.frame _, fun h => by cases h⟩

theorem stops : Ybaf.pinned.checked.prog.stops = ["fmt.Sprintf"] := by kernel_rfl
theorem stopKnobs : Ybaf.pinned.checked.prog.stopKnobs = [] := by kernel_rfl
theorem quiet (os : Os) : Stop.quiet Ybaf.pinned.checked.prog os := by
  intro k hk
  rw [stopKnobs] at hk
  cases hk

theorem proved : Rows.LawS9054BPartToldSaid :=
  Claim7.holds_of_told_any 3 Ybaf.f3 "fmt.Sprintf" [] [] _ _ _ (by kernel_rfl) rfl rfl rfl laidOut (by kernel_rfl) rfl ⟨rfl, rfl, rfl, rfl, rfl, rfl, rfl⟩ rfl rfl (by kernel_rfl) (by kernel_rfl) Ybaf.func3 (by kernel_rfl)
    (of_decide_eq_true (by kernel_rfl)) (of_decide_eq_true (by kernel_rfl)) stops.symm rfl stopKnobs.symm (by kernel_rfl)
    (by kernel_rfl) (by kernel_rfl) (by kernel_rfl) (by kernel_rfl) (by kernel_rfl) (by kernel_rfl) (by kernel_rfl) (by kernel_rfl) (by kernel_rfl) rfl (by kernel_rfl) rfl rfl
    rfl rfl
    rfl (by kernel_rfl) (by kernel_rfl) (by kernel_rfl) (by decide) (by kernel_rfl)
    (OpenClaim.moreEntering_of (by kernel_rfl) (by kernel_rfl) (by kernel_rfl) (by kernel_rfl) (by kernel_rfl) (by kernel_rfl) (by kernel_rfl) (by kernel_rfl) (by kernel_rfl) (by kernel_rfl))
    ⟨_, WideRow.started_initial, quiet _⟩
    (fun os started _ H enc _ => lifted os started H enc)
end Go.Proofs.YbulkgemgFmt.lawS9054BPart
