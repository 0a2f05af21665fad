/-
  9051B, seventh text: the law, where the first token is a name.
-/
import Derived.Test.YbulkgekqFmtWalkF
namespace Go.Proofs.YbulkgekqFmt
open Go.RowKit Go.Extern.Stop Go.Stop Go.Extern
set_option linter.unusedSimpArgs false
set_option linter.unusedVariables false
attribute [local go_sem] assert37

theorem at_int (ao : Option Addr) (g n i : Nat) (x : Int) (hx : x = (i : Int)) (T : Nat → Tok) (t : Tok) (w : World) (hn : n ≤ 1048576) (hi : i ≤ 2000000) (hao : 0 < n → ao = some ⟨g, 0, none⟩) (hg : 0 < n → g < w.heap.size) (hr : Row w g n T) (ht : t = tokAt T n i) :
    Calls Ybaf.prog 6 #[.slice ao n n, .int .i64 x] w fun e w' => e = .returned (.agg #[.string t.kind, .string t.text, .string t.value, .int .i64 t.start, .int .i64 t.fin]) ∧ w.grownBy w' none := by
  subst hx
  exact at_any ao g n i T t w hn hi hao hg hr ht

theorem name_lt {T : Nat → Tok} {n i : Nat} (h : nameB (tokAt T n i) = true) : i < n := by
  by_cases hlt : i < n
  · exact hlt
  · exfalso
    rw [tokAt, if_neg hlt] at h
    revert h
    show ¬ (nameB ⟨eofK, _, _, _, _⟩ = true)
    simp only [nameB, identB, quotedB]
    decide +kernel
theorem dot_lt {T : Nat → Tok} {n i : Nat} (h : dotB (tokAt T n i) = true) : i < n := by
  by_cases hlt : i < n
  · exact hlt
  · exfalso
    rw [tokAt, if_neg hlt] at h
    have : opB ⟨eofK, ⟨#[]⟩, ⟨#[]⟩, if 0 < n then (T (n - 1)).fin else 0, if 0 < n then (T (n - 1)).fin else 0⟩ = false := by
      simp only [opB]
      decide +kernel
    simp [dotB, this] at h

set_option maxRecDepth 100000 in
set_option maxHeartbeats 4000000 in
theorem law_b (F : Interp) (a : Option Addr) (n cap i : Nat) (pos : Int) (I : Nat → Inp) (w : World) (hF : F.answers w.tape) (hn : n ≤ 1048576) (hp0 : 0 ≤ pos) (hp1 : pos ≤ 255) (hst : pos % ((n : Int) + 3) = (i : Int)) (hin : i < n + 3) (h : ArgAny w a n cap I)
    (t : Tok) (ht : t = tokAt (fun i => tokOf (I i)) n i) (hd : nameB t = true) (t2 : Tok) (ht2 : t2 = tokAt (fun i => tokOf (I i)) n (i + 1)) (hd2 : dotB t2 = false) :
    Calls Ybaf.prog 3 #[.slice a n cap, .int .u8 pos] w fun e w' => e = .returned (.bool true) ∧ w.grownBy w' none := by
  have HB := keep (build_any a n cap I w hn h)
  have HI := keep h
  have HT := keep ht
  have HD := keep hd
  have HT2 := keep ht2
  have HD2 := keep hd2
  have hlt : i < n := by have := HD.out; rw [HT.out] at this; exact name_lt this
  have hst1 : step n i = i + 1 := by rw [step, if_pos hlt]
  have HS : Hid (dotB (tokAt (fun i => tokOf (I i)) n (step n i)) = false) := by show dotB _ = false; rw [hst1, ← HT2.out]; exact HD2.out
  have HST := keep hst1
  clear hd ht2 hd2 hst1
  clear h ht
  go_enter Ybaf.func3, Ybaf.ntmps3
  go_wp2_with fail
  refine HB.out.mono ?_
  rintro e w1 ⟨⟨ao, g, rfl, hao, hg, hr⟩, gr1⟩
  have HR := keep hr
  have HG := keep hg
  have HAO := keep hao
  clear hr hg hao
  have gra := World.grownBy_alloc w1 (.cells #[.slice ao n n, .int .i64 i] 27) none
  have HI1 := keep (HI.out.grown gr1)
  have HR1 := keep (row_on (p := w1.heap.size) HR.out (fun hn => (HG.out hn).2) (fun hn => by have := (HG.out hn).2; omega) (grown_none gra _))
  have hF1 : F.answers w1.tape := by rw [gr1.tape]; exact hF
  go_wp2_with fail
  refine (setting_one F ao w1.heap.size g n i (fun i => tokOf (I i)) t _ hn (by omega) HAO.out (fun hn => by have := (HG.out hn).2; simp; omega) HR1.out (Par.new _ _ _) HT.out (by exact hF1) (fun hn => by have := (HG.out hn).2; omega) (by omega) HD.out HS.out).mono ?_
  rintro e w2 ⟨rfl, gr2, hp2⟩
  have gr2s := gr2.size
  simp only [World.size_alloc] at gr2s
  have INV := keep (show Inv w2 a cap I ao g n w1.heap.size (step n i) from ⟨row_on HR1.out (fun hn => by have := (HG.out hn).2; simp; omega) (fun hn => by have := (HG.out hn).2; omega) gr2, fun hn => by have := (HG.out hn).2; omega, fun hn => by have := (HG.out hn).2; omega, hp2, HAO.out, ArgAny.grownP HI1.out gra gr2 (Nat.le_refl _)⟩)
  have GR2 : Hid (w.grownBy w2 none) := ⟨gr2.os.trans gr1.os, gr2.tape.trans gr1.tape, gr2.output.trans gr1.output, by have := gr1.size; omega, fun k hk _ => by
    rw [gr2.block k (by have := gr1.size; simp; omega) (by have := gr1.size; simp; omega), gra.block k (by have := gr1.size; omega) (by simp)]; exact gr1.block k hk (by simp)⟩
  have q0 := hp2.c0
  have q1 := hp2.c1
  have q2 := hp2.lt
  clear hp2 gr2 gra gr1 HR1 HI1 HR HG HAO HB hF1
  generalize w1.heap.size = p at *
  rw [HST.out] at q1
  go_wp2_with fail
  have G2 := World.grownBy_alloc w2 (.cells #[.string ⟨#[]⟩, .string ⟨#[]⟩, .string ⟨#[]⟩, .int .i64 0, .int .i64 0] 34) none
  have INV2 := keep (INV.out.grown G2)
  refine (at_any ao g n i (fun i => tokOf (I i)) t _ hn (by omega) INV2.out.hao INV2.out.glt INV2.out.row HT.out).mono ?_
  rintro e w3 ⟨rfl, gr3⟩
  obtain ⟨hc3, hf3, hz3⟩ := gcell gr3
  simp only [World.size_alloc] at hc3 hf3 hz3
  have G3 := keep (grown_trans G2 gr3)
  clear gr3 INV2 G2
  have v2 : p < w2.heap.size + 1 := by omega
  have v3 : p < w3.heap.size := by omega
  have v4 : w2.heap.size < w3.heap.size := by omega
  go_wp2_with fail
  refine (isname_any t _).mono ?_
  rintro e w4 ⟨rfl, gr4⟩
  rw [HD.out]
  obtain ⟨hc4, hf4, hz4⟩ := gcell gr4
  simp only [World.size_alloc] at hc4 hf4 hz4
  have G4 := keep (grown_trans G3.out (grown_trans (World.grownBy_alloc w3 _ none) gr4))
  clear gr4 G3
  have v5 : p < w3.heap.size + 1 := by omega
  have v6 : p < w4.heap.size := by omega
  have v7 : w2.heap.size < w3.heap.size + 1 := by omega
  have v8 : w2.heap.size < w4.heap.size := by omega
  have v9 : w3.heap.size < w4.heap.size := by omega
  have v10 : w2.heap.size ≠ p := by omega
  have v11 : p ≠ w2.heap.size := by omega
  have v12 : w2.heap.size ≠ w3.heap.size := by omega
  have v13 : w3.heap.size ≠ w2.heap.size := by omega
  go_wp2_with fail
  have INV4 := keep (INV.out.grown G4.out)
  refine (at_int ao g n (i + 1) _ (by omega) (fun i => tokOf (I i)) t2 _ hn (by omega) INV4.out.hao INV4.out.glt INV4.out.row HT2.out).mono ?_
  rintro e w5 ⟨rfl, gr5⟩
  obtain ⟨hc5, hf5, hz5⟩ := gcell gr5
  have G5 := keep (grown_trans G4.out gr5)
  clear gr5 INV4 G4
  have v14 : p < w5.heap.size := by omega
  have v15 : w2.heap.size < w5.heap.size := by omega
  have v16 : w3.heap.size < w5.heap.size := by omega
  have v17 : w2.heap.size ≠ w5.heap.size := by omega
  have v18 : w5.heap.size ≠ w2.heap.size := by omega
  cases h1 : opB t2 with
  | true =>
    have h2 : dotText t2 = false := by have := HD2.out; simpa [dotB, h1] using this
    unfold opB at h1
    unfold dotText at h2
    go_wp2_with fail
    have G9 := keep (grown_alloc G5.out (.cells #[.string t2.kind, .string t2.text, .string t2.value, .int .i64 t2.start, .int .i64 t2.fin] 34))
    refine (build_any a n cap I _ hn (HI.out.grown (grown_trans GR2.out G9.out))).mono ?_
    rintro e w6 ⟨⟨ao2, g2, rfl, hao2, hg2, hr2⟩, gr6⟩
    obtain ⟨hc6, hf6, hz6⟩ := gcell gr6
    simp only [World.size_alloc] at hc6 hf6 hz6
    have G6 := keep (grown_trans G9.out gr6)
    have ROW1 := keep (INV.out.grown G6.out)
    have ROW2 := keep (And.intro hr2 hao2)
    clear gr6 hr2 hao2 hg2 G9
    have v1 : p < w5.heap.size + 1 := by omega
    go_wp2_with fail
    go_loopw [19] (fun j wr => ∃ k m : Nat, k ≤ n ∧ j = .int .i64 k ∧ wr = w6.drewN m) (fun j _ => n - (intOf j).toNat)
    case atStart => exact ⟨0, 0, Nat.zero_le _, rfl, rfl⟩
    case round =>
      obtain ⟨k, m, hk, rfl, rfl⟩ := hrel
      by_cases hkn : k < n
      · obtain rfl := ROW1.out.hao (by omega)
        obtain rfl := ROW2.out.2 (by omega)
        obtain ⟨x0, x1, x2, x3, x4⟩ := ROW1.out.row k hkn
        obtain ⟨y0, y1, y2, y3, y4⟩ := ROW2.out.1 k hkn
        go_wp2_with fail
        go_quiet (fail)
        go_wp2
        go_roundw
        case rel => exact ⟨k + 1, m + nq, by omega, by go_num, rfl⟩
        case measure => simp [intOf]; omega
      · go_wp2
        go_ret
        exact ⟨rfl, grown_drewN (grown_trans GR2.out G6.out) _⟩
  | false =>
    unfold opB at h1
    go_wp2_with fail
    have G9 := keep (grown_alloc G5.out (.cells #[.string t2.kind, .string t2.text, .string t2.value, .int .i64 t2.start, .int .i64 t2.fin] 34))
    refine (build_any a n cap I _ hn (HI.out.grown (grown_trans GR2.out G9.out))).mono ?_
    rintro e w6 ⟨⟨ao2, g2, rfl, hao2, hg2, hr2⟩, gr6⟩
    obtain ⟨hc6, hf6, hz6⟩ := gcell gr6
    simp only [World.size_alloc] at hc6 hf6 hz6
    have G6 := keep (grown_trans G9.out gr6)
    have ROW1 := keep (INV.out.grown G6.out)
    have ROW2 := keep (And.intro hr2 hao2)
    clear gr6 hr2 hao2 hg2 G9
    have v1 : p < w5.heap.size + 1 := by omega
    go_wp2_with fail
    go_loopw [19] (fun j wr => ∃ k m : Nat, k ≤ n ∧ j = .int .i64 k ∧ wr = w6.drewN m) (fun j _ => n - (intOf j).toNat)
    case atStart => exact ⟨0, 0, Nat.zero_le _, rfl, rfl⟩
    case round =>
      obtain ⟨k, m, hk, rfl, rfl⟩ := hrel
      by_cases hkn : k < n
      · obtain rfl := ROW1.out.hao (by omega)
        obtain rfl := ROW2.out.2 (by omega)
        obtain ⟨x0, x1, x2, x3, x4⟩ := ROW1.out.row k hkn
        obtain ⟨y0, y1, y2, y3, y4⟩ := ROW2.out.1 k hkn
        go_wp2_with fail
        go_quiet (fail)
        go_wp2
        go_roundw
        case rel => exact ⟨k + 1, m + nq, by omega, by go_num, rfl⟩
        case measure => simp [intOf]; omega
      · go_wp2
        go_ret
        exact ⟨rfl, grown_drewN (grown_trans GR2.out G6.out) _⟩

end Go.Proofs.YbulkgekqFmt
