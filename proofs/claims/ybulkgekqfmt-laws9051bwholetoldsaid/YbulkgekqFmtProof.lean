/-
  THE TOLD CARD OF 'namesake.LawS9051BWhole': the slice of structs that came in, opened; from the walks to 'ReturnsInTold'; the builder's call.
-/
import Derived.Test.YbulkgekqFmtWalkH
import Derived.Test.YbulkgekqFmtCards
import Derived.ProofKit
import Derived.ShutString
import Derived.ChangeOld
import Derived.Deep.Slices
import Derived.Stop.JoinedAt
import Derived.Stop.JoinedTold
import Derived.SizedLaws
import Derived.SevenToldRow
namespace Go.Proofs.YbulkgekqFmt.lawS9051BWhole
open Go.ChangeShapes Go.WideShapes Go.ChangeAt Go.RowKit Go.Deep
open Go.ChangeMaps (open_string shut_string)
open Go.Extern.Stop Go.Stop Go.Extern
set_option linter.unusedSimpArgs false
set_option linter.unusedVariables false

theorem own : ownKnob Ybaf.prog.godebug = none := by kernel_rfl
theorem laidOut : laidOutB Ybaf.prog = true := by kernel_rfl
theorem cells44 : Ybaf.prog.cellsOf 44 = 5 := by kernel_rfl
theorem cells5 : Ybaf.prog.cellsOf 5 = 1 := by kernel_rfl
theorem cells9 : Ybaf.prog.cellsOf 9 = 1 := by kernel_rfl
theorem cells3 : Ybaf.prog.cellsOf 3 = 1 := by kernel_rfl

/-- every string behind the slice is within the reach. -/
def Fits (n : Nat) (I : Nat → Inp) : Prop := ∀ i, i < n → (I i).value.size ≤ 140737488351232

theorem tok_value {n : Nat} {I : Nat → Inp} (h : Fits n I) (i : Nat) : (tokAt (fun i => tokOf (I i)) n i).value.size ≤ 140737488351232 := by
  unfold tokAt
  split
  · rename_i hi; exact h i hi
  · simp; decide

set_option maxRecDepth 100000 in
theorem law_walk (F : Interp) (a : Option Addr) (n cap : Nat) (pos : Int) (I : Nat → Inp) (w : World) (hF : F.answers w.tape) (hp0 : 0 ≤ pos) (hp1 : pos ≤ 255) (hl : n ≤ maxLen) (h : ArgAny w a n cap I) (hfit : Fits n I) :
    Calls Ybaf.prog 3 #[.slice a n cap, .int .u8 pos] w fun e w' => e = .returned (.bool true) ∧ w.grownBy w' none := by
  by_cases hbig : (1048576 : Int) < n
  · unfold maxLen at hl
    go_enter Ybaf.func3, Ybaf.ntmps3
    go_wp2
    go_ret
    exact ⟨rfl, World.grownBy.refl _ _⟩
  have hn : n ≤ 1048576 := by omega
  have h0 : 0 ≤ pos % ((n : Int) + 3) := Int.emod_nonneg _ (by omega)
  have h1 : pos % ((n : Int) + 3) < (n : Int) + 3 := Int.emod_lt_of_pos _ (by omega)
  obtain ⟨i, hi⟩ := Int.eq_ofNat_of_zero_le h0
  have hin : i < n + 3 := by omega
  generalize ht : tokAt (fun i => tokOf (I i)) n i = t
  cases hd : nameB t with
  | false => exact law_a F a n cap i pos I w hF hn hp0 hp1 hi hin h t ht.symm hd
  | true =>
    generalize ht2 : tokAt (fun i => tokOf (I i)) n (i + 1) = t2
    cases hd2 : dotB t2 with
    | false => exact law_b F a n cap i pos I w hF hn hp0 hp1 hi hin h t ht.symm hd t2 ht2.symm hd2
    | true =>
      generalize ht3 : tokAt (fun i => tokOf (I i)) n (i + 2) = t3
      cases hd3 : nameB t3 with
      | false => exact law_c F a n cap i pos I w hF hn hp0 hp1 hi hin h t ht.symm hd t2 ht2.symm hd2 t3 ht3.symm hd3
      | true => exact law_d F a n cap i pos I w hF hn hp0 hp1 hi hin h t ht.symm hd t2 ht2.symm hd2 t3 ht3.symm hd3 (by rw [← ht]; exact tok_value hfit i) (by rw [← ht3]; exact tok_value hfit _)

section
variable {H : Type} {enc : TypeId × Value → H} {W : World}

/-- one element of the slice. -/
theorem elem44 {base : Nat} {spare : Nat → Bool} {held : Bool} {fuel : Nat} {cs : List Value} {d : DataW H} {pl : List MemPlace} (h : DataW.trod enc Ybaf.prog W base spare held fuel 44 cs = some (d, pl)) :
    ∃ (x : Inp) (d0 d1 d3 d4 : DataW H), cs = [.int .u8 x.kind, .string x.text, .string x.value, .int .i64 x.start, .int .i64 x.fin] ∧ (Lit.int .u8 x.kind).wf = true ∧ d = .agg [d0, d1, .lit (.string x.value.data.toList), d3, d4] := by
  obtain ⟨xs, n, _, hx, hl, hlen, hf⟩ := DataW.trod_struct Ybaf.underlying44 h
  rw [cells44] at hl
  match cs, hl with
  | [c0, c1, c2, c3, c4], _ =>
    match xs, hlen with
    | [y0, y1, y2, y3, y4], _ =>
      have f0 : DataW.trod enc Ybaf.prog W base spare held n 5 (([c0, c1, c2, c3, c4].drop 0).take (Ybaf.prog.cellsOf 5)) = some y0 := hf 0 _ rfl
      rw [cells5] at f0
      have f1 : DataW.trod enc Ybaf.prog W base spare held n 9 (([c0, c1, c2, c3, c4].drop 1).take (Ybaf.prog.cellsOf 9)) = some y1 := hf 1 _ rfl
      rw [cells9] at f1
      have f2 : DataW.trod enc Ybaf.prog W base spare held n 9 (([c0, c1, c2, c3, c4].drop 2).take (Ybaf.prog.cellsOf 9)) = some y2 := hf 2 _ rfl
      rw [cells9] at f2
      have f3 : DataW.trod enc Ybaf.prog W base spare held n 3 (([c0, c1, c2, c3, c4].drop 3).take (Ybaf.prog.cellsOf 3)) = some y3 := hf 3 _ rfl
      rw [cells3] at f3
      have f4 : DataW.trod enc Ybaf.prog W base spare held n 3 (([c0, c1, c2, c3, c4].drop 4).take (Ybaf.prog.cellsOf 3)) = some y4 := hf 4 _ rfl
      rw [cells3] at f4
      obtain ⟨k, e0, q0, w0⟩ := DataW.trod_int Ybaf.underlying5 f0
      obtain ⟨t, e1, q1, _⟩ := DataW.trod_string Ybaf.underlying9 f1
      obtain ⟨v, e2, q2, _⟩ := DataW.trod_string Ybaf.underlying9 f2
      obtain ⟨s, e3, q3, _⟩ := DataW.trod_int Ybaf.underlying3 f3
      obtain ⟨f, e4, q4, _⟩ := DataW.trod_int Ybaf.underlying3 f4
      simp at e0 e1 e2 e3 e4
      subst e0 e1 e2 e3 e4
      subst q2
      simp at hx
      exact ⟨⟨k, t, v, s, f⟩, _, _, _, _, rfl, w0, hx.1⟩

theorem weights_all {P : Program} {e : TypeId} {elems : List (DataW H)} {d : DataW H} (hd : d ∈ elems) : ∀ n ∈ d.weights P e, n ∈ DataW.weightsAll P e elems := by
  intro n hn
  induction elems with
  | nil => cases hd
  | cons x r ih =>
    simp only [DataW.weightsAll, List.mem_append]
    rcases List.mem_cons.1 hd with rfl | hd
    · exact Or.inl hn
    · exact Or.inr (ih hd)

/-- the slice that came in. -/
theorem open_arg {base fuel : Nat} {a : Option Addr} {len cap : Nat} {d : DataW H} {pl : List MemPlace}
    (h : DataW.trod enc Ybaf.prog W base (fun _ => true) true fuel 22 [.slice a len cap] = some (d, pl)) (hw : (d.weights Ybaf.prog 22).all (· ≤ reachBytes) = true) :
    len ≤ maxLen ∧ ∃ I, ArgAny W a len cap I ∧ Fits len I := by
  rcases open_slice Ybaf.underlying22 h with ⟨hcs, hx⟩ | ⟨x, l, c, m, nf, D, Pl, hcs, _, hl, hm, hmm, hx, hel⟩
  · simp at hcs
    obtain ⟨rfl, rfl, rfl⟩ := hcs
    exact ⟨Nat.zero_le _, fun _ => ⟨0, ⟨#[]⟩, ⟨#[]⟩, 0, 0⟩, Or.inl ⟨rfl, rfl, rfl⟩, fun i hi => by omega⟩
  · simp at hcs
    obtain ⟨rfl, rfl, rfl⟩ := hcs
    simp only [if_true] at hmm
    subst hmm
    refine ⟨by omega, ?_⟩
    rw [cells44] at hel
    simp only [Prod.mk.injEq] at hx
    obtain ⟨rfl, rfl⟩ := hx
    have hall : ∀ i, i < len → ∃ y : Inp, (∀ c, c < 5 → W.cell? ((x.add (i * 5)).add c) = [Value.int .u8 y.kind, .string y.text, .string y.value, .int .i64 y.start, .int .i64 y.fin][c]?) ∧ 0 ≤ y.kind ∧ y.kind ≤ 255 ∧ y.value.size ≤ 140737488351232 := by
      intro i hi
      obtain ⟨cs', hc, ht⟩ := hel i (by omega)
      obtain ⟨_, _, hcell⟩ := World.cells?_some hc
      obtain ⟨y, d0, d1, d3, d4, rfl, hwf, hd⟩ := elem44 ht
      have bd := bounds_u8 hwf
      refine ⟨y, hcell, bd.1, bd.2, ?_⟩
      have hmem : D i ∈ (List.range len).map D := List.mem_map.2 ⟨i, List.mem_range.2 hi, rfl⟩
      have hlen : y.value.data.toList.length ∈ (D i).weights Ybaf.prog 44 := by
        rw [hd]
        simp [DataW.weights, Ybaf.underlying44, DataW.weightsEach]
      have h2 := weights_all (P := Ybaf.prog) (e := 44) hmem _ hlen
      have h3 : y.value.data.toList.length ≤ reachBytes := by
        have := List.all_eq_true.1 hw (y.value.data.toList.length) (by simp only [DataW.weights, Ybaf.underlying22]; exact List.mem_cons_of_mem _ (List.mem_append_left _ h2))
        simpa using this
      have h4 : reachBytes = 140737488351232 := rfl
      rw [h4] at h3
      simpa using h3
    by_cases h0 : len = 0
    · subst h0
      exact ⟨fun _ => ⟨0, ⟨#[]⟩, ⟨#[]⟩, 0, 0⟩, Or.inr (Or.inl ⟨rfl, x, rfl⟩), fun i hi => by omega⟩
    · obtain ⟨b, off, spot⟩ := x
      obtain ⟨y0, hc0, _⟩ := hall 0 (by omega)
      have hz := hc0 0 (by omega)
      have hspot : spot = none := by simpa [Addr.add] using World.cell?_spot hz
      subst hspot
      have hin : Inhabited Inp := ⟨⟨0, ⟨#[]⟩, ⟨#[]⟩, 0, 0⟩⟩
      obtain ⟨I, hI⟩ := choose_lt hall
      refine ⟨I, Or.inr (Or.inr ⟨b, off, rfl, by simpa [Addr.add] using World.block_lt_of_cell? _ _ hz, fun i hi => ?_⟩), fun i hi => (hI i hi).2.2.2⟩
      obtain ⟨g0, g1, g2, _⟩ := hI i hi
      have e0 := g0 0 (by omega)
      have e1 := g0 1 (by omega)
      have e2 := g0 2 (by omega)
      have e3 := g0 3 (by omega)
      have e4 := g0 4 (by omega)
      simp only [add_plain, Nat.add_zero] at e0 e1 e2 e3 e4
      exact ⟨e0, e1, e2, e3, e4, g1, g2⟩
end

theorem grown_below {w w' : World} (h : w.grownBy w' none) : Below w.heap.size w w' := ⟨h.os, h.tape, h.output, h.size, fun k hk => h.block k hk (by simp)⟩

set_option maxRecDepth 100000 in
theorem lifted (os : Os) (started : os.Started) (H : Type) (enc : TypeId × Value → H) :
    ReturnsInTold none {} Ybaf.checked os 3 .any Input.okWide ((OpenSpec.ofChange Rows.lawS9051BWholeSpec).preRow enc Ybaf.prog Ybaf.f3 [] false []) (fun F => ((OpenSpec.ofChange Rows.lawS9051BWholeSpec).at F).post enc Ybaf.prog Ybaf.f3 false true false false) (aloneAtReturn Ybaf.prog) nothingAlways := by
  refine returnsInTold_of_row (C := Ybaf.checked) (s := OpenSpec.ofChange Rows.lawS9051BWholeSpec) (by kernel_rfl) own started (by kernel_rfl) Ybaf.func3
    (OpenSpec.witness_stopped (enc := enc) (C := Ybaf.checked) false ⟨#[], #[.slice none 0 0, .int .u8 0], []⟩ 8 (by kernel_rfl) (by kernel_rfl) (by kernel_rfl) (by kernel_rfl)) ?_
  intro F W base args ds gs before _ hF hval0 hW _ _ hsz0 _ _
  have hval : ∀ (j : Nat) t v, Ybaf.f3.params[j]? = some t → args[j]? = some v → Value.okWide Ybaf.prog W .any base t v := hval0
  have hsz : (DataW.weightsEach Ybaf.prog (Ybaf.f3.params.toList ++ (OpenSpec.ofChange Rows.lawS9051BWholeSpec).bare.plain.varTypes Ybaf.prog) (ds ++ gs)).all (· ≤ reachBytes) = true := hsz0
  have hW' := hW
  obtain ⟨p, q, hA0, hV, rfl, hfz, hnd⟩ := hW
  have hA : DataW.TrodAll enc Ybaf.prog W 0 (fun _ => true) true Ybaf.f3.params.toList args.toList ds p := hA0
  rw [Ybaf.params3] at hA hval hsz
  obtain ⟨v0, vs0, d0, ds0, p0, q0, hargs, rfl, rfl, h0, r0⟩ := trodAll_cons hA
  obtain ⟨v1, vs1, d1, ds1, p1, q1, rfl, rfl, rfl, h1, r1⟩ := trodAll_cons r0
  obtain ⟨rfl, rfl, rfl⟩ := trodAll_nil r1
  obtain rfl : args = #[v0, v1] := by cases args; simp_all
  obtain ⟨rfl, rfl⟩ := trodVars_none hV
  obtain ⟨a0, len0, cap0, rfl⟩ := okWide_slice Ybaf.underlying22 (hval 0 22 v0 rfl rfl)
  obtain ⟨a1, rfl, rfl, rfl, w1⟩ := open_int Ybaf.underlying5 (hval 1 5 v1 rfl rfl) h1
  have k0 := h0
  have lt0 : ∀ x ∈ p0, x.block < W.heap.size := by obtain ⟨m, hm⟩ := k0; exact DataW.trod_lt m _ _ _ hm
  have hw0 : (d0.weights Ybaf.prog 22).all (· ≤ reachBytes) = true := by
    rw [List.all_eq_true] at hsz ⊢
    intro x hx
    exact hsz x (DataW.weights_mem_each (j := 0) rfl rfl x hx)
  obtain ⟨hlen, I, hI, hfit⟩ : len0 ≤ maxLen ∧ ∃ I, ArgAny W a0 len0 cap0 I ∧ Fits len0 I := by
    obtain ⟨fuel, hf⟩ := h0
    exact open_arg (by simpa [Value.cells] using hf) hw0
  clear hA0 hval0
  have bd := bounds_u8 w1
  refine (law_walk F.told a0 len0 cap0 a1 I W hF bd.1 bd.2 hlen hI hfit).mono fun e W' ⟨he, hg⟩ => ?_
  have bel := grown_below hg
  subst he
  exact ⟨_, rfl, _, _, _, [], _, [], hW', trodAll_mk1 (shut_bool Ybaf.underlying4 _), (trodAll_cons_mk (Below.trod laidOut (by kernel_rfl) (of_decide_eq_true (by kernel_rfl)) k0 bel lt0) (trodAll_cons_mk (shut_int Ybaf.underlying5 w1) trodAll_mk0)), rfl, bel.frame _, fun h => by cases h⟩

theorem stops : Ybaf.pinned.checked.prog.stops = ["fmt.Sprintf"] := by kernel_rfl
theorem stopKnobs : Ybaf.pinned.checked.prog.stopKnobs = [] := by kernel_rfl
theorem quiet (os : Os) : Stop.quiet Ybaf.pinned.checked.prog os := by
  intro k hk
  rw [stopKnobs] at hk
  cases hk

theorem proved : Rows.LawS9051BWholeToldSaid :=
  Claim7.holds_of_told_any 3 Ybaf.f3 "fmt.Sprintf" [] [] _ _ _ (by kernel_rfl) rfl rfl rfl laidOut (by kernel_rfl) rfl ⟨rfl, rfl, rfl, rfl, rfl, rfl, rfl⟩ rfl rfl (by kernel_rfl) (by kernel_rfl) Ybaf.func3 (by kernel_rfl)
    (of_decide_eq_true (by kernel_rfl)) (of_decide_eq_true (by kernel_rfl)) stops.symm rfl stopKnobs.symm (by kernel_rfl)
    (by kernel_rfl) (by kernel_rfl) (by kernel_rfl) (by kernel_rfl) (by kernel_rfl) (by kernel_rfl) (by kernel_rfl) (by kernel_rfl) (by kernel_rfl) rfl (by kernel_rfl) rfl rfl
    rfl rfl
    rfl (by kernel_rfl) (by kernel_rfl) (by kernel_rfl) (by decide) (by kernel_rfl)
    (OpenClaim.moreEntering_of (by kernel_rfl) (by kernel_rfl) (by kernel_rfl) (by kernel_rfl) (by kernel_rfl) (by kernel_rfl) (by kernel_rfl) (by kernel_rfl) (by kernel_rfl) (by kernel_rfl))
    ⟨_, WideRow.started_initial, quiet _⟩
    (fun os started _ H enc _ => lifted os started H enc)
end Go.Proofs.YbulkgekqFmt.lawS9051BWhole
