/-
  9051B, eighth text: the law, where two names are asked for.
-/
import Derived.Test.YbulkgekqFmtWalkG
namespace Go.Proofs.YbulkgekqFmt
open Go.RowKit Go.Extern.Stop Go.Stop Go.Extern
set_option linter.unusedSimpArgs false
set_option linter.unusedVariables false
attribute [local go_sem] assert37

set_option maxRecDepth 100000 in
set_option maxHeartbeats 4000000 in
theorem law_c (F : Interp) (a : Option Addr) (n cap i : Nat) (pos : Int) (I : Nat → Inp) (w : World) (hF : F.answers w.tape) (hn : n ≤ 1048576) (hp0 : 0 ≤ pos) (hp1 : pos ≤ 255) (hst : pos % ((n : Int) + 3) = (i : Int)) (hin : i < n + 3) (h : ArgAny w a n cap I)
    (t : Tok) (ht : t = tokAt (fun i => tokOf (I i)) n i) (hd : nameB t = true) (t2 : Tok) (ht2 : t2 = tokAt (fun i => tokOf (I i)) n (i + 1)) (hd2 : dotB t2 = true) (t3 : Tok) (ht3 : t3 = tokAt (fun i => tokOf (I i)) n (i + 2)) (hd3 : nameB t3 = false) :
    Calls Ybaf.prog 3 #[.slice a n cap, .int .u8 pos] w fun e w' => e = .returned (.bool true) ∧ w.grownBy w' none := by
  have HB := keep (build_any a n cap I w hn h)
  have HI := keep h
  have HT := keep ht
  have HD := keep hd
  have HT2 := keep ht2
  have HD2 := keep hd2
  have HT3 := keep ht3
  have HD3 := keep hd3
  have hlt : i < n := by have := HD.out; rw [HT.out] at this; exact name_lt this
  have hst1 : step n i = i + 1 := by rw [step, if_pos hlt]
  have HS : Hid (dotB (tokAt (fun i => tokOf (I i)) n (step n i)) = true) := by show dotB _ = true; rw [hst1, ← HT2.out]; exact HD2.out
  have HS3 : Hid (t3 = tokAt (fun i => tokOf (I i)) n (step n i + 1)) := by show t3 = _; rw [hst1]; exact HT3.out
  have h1 : opB t2 = true := by have := HD2.out; simp [dotB] at this; exact this.1
  have h2 : dotText t2 = true := by have := HD2.out; simp [dotB] at this; exact this.2
  unfold opB at h1
  unfold dotText at h2
  have HST := keep hst1
  clear hd ht2 hd2 hst1 ht3 hd3
  clear h ht
  go_enter Ybaf.func3, Ybaf.ntmps3
  go_wp2_with fail
  refine HB.out.mono ?_
  rintro e w1 ⟨⟨ao, g, rfl, hao, hg, hr⟩, gr1⟩
  have HR := keep hr
  have HG := keep hg
  have HAO := keep hao
  clear hr hg hao
  have gra := World.grownBy_alloc w1 (.cells #[.slice ao n n, .int .i64 i] 27) none
  have HI1 := keep (HI.out.grown gr1)
  have HR1 := keep (row_on (p := w1.heap.size) HR.out (fun hn => (HG.out hn).2) (fun hn => by have := (HG.out hn).2; omega) (grown_none gra _))
  have hF1 : F.answers w1.tape := by rw [gr1.tape]; exact hF
  go_wp2_with fail
  refine (setting_no2 F ao w1.heap.size g n i (fun i => tokOf (I i)) t _ hn (by omega) HAO.out (fun hn => by have := (HG.out hn).2; simp; omega) HR1.out (Par.new _ _ _) HT.out (by exact hF1) (fun hn => by have := (HG.out hn).2; omega) (by omega) HD.out HS.out t3 HS3.out HD3.out).mono ?_
  rintro e w2 ⟨⟨v, rfl, he⟩, gr2, hp2⟩
  have gr2s := gr2.size
  simp only [World.size_alloc] at gr2s
  have INV := keep (show Inv w2 a cap I ao g n w1.heap.size (step n (step n i + 1)) from ⟨row_on HR1.out (fun hn => by have := (HG.out hn).2; simp; omega) (fun hn => by have := (HG.out hn).2; omega) gr2, fun hn => by have := (HG.out hn).2; omega, fun hn => by have := (HG.out hn).2; omega, hp2, HAO.out, ArgAny.grownP HI1.out gra gr2 (Nat.le_refl _)⟩)
  have GR2 : Hid (w.grownBy w2 none) := ⟨gr2.os.trans gr1.os, gr2.tape.trans gr1.tape, gr2.output.trans gr1.output, by have := gr1.size; omega, fun k hk _ => by
    rw [gr2.block k (by have := gr1.size; simp; omega) (by have := gr1.size; simp; omega), gra.block k (by have := gr1.size; omega) (by simp)]; exact gr1.block k hk (by simp)⟩
  have q0 := hp2.c0
  have q1 := hp2.c1
  have q2 := hp2.lt
  obtain ⟨b, msg, rfl, e1, e2, e3, e4, e5⟩ := he
  simp only [World.size_alloc] at e1
  have E5 := keep e5
  clear e5
  clear hp2 gr2 gra gr1 HR1 HI1 HR HG HAO HB hF1
  generalize w1.heap.size = p at *
  by_cases hl3 : i + 2 < n
  · have hst2 : step n (step n i + 1) = i + 3 := by rw [HST.out, step, if_pos (by omega)]
    rw [hst2] at q1
    clear hst2
    go_wp2_with fail
    have G2 := World.grownBy_alloc w2 (.cells #[.string ⟨#[]⟩, .string ⟨#[]⟩, .string ⟨#[]⟩, .int .i64 0, .int .i64 0] 34) none
    have INV2 := keep (INV.out.grown G2)
    refine (at_any ao g n i (fun i => tokOf (I i)) t _ hn (by omega) INV2.out.hao INV2.out.glt INV2.out.row HT.out).mono ?_
    rintro e w3 ⟨rfl, gr3⟩
    obtain ⟨hc3, hf3, hz3⟩ := gcell gr3
    simp only [World.size_alloc] at hc3 hf3 hz3
    have G3 := keep (grown_trans G2 gr3)
    clear gr3 INV2 G2
    have v19 : p < w2.heap.size + 1 := by omega
    have v20 : p < w3.heap.size := by omega
    have v21 : b < w2.heap.size + 1 := by omega
    have v22 : b < w3.heap.size := by omega
    have v23 : w2.heap.size < w3.heap.size := by omega
    go_wp2_with fail
    refine (isname_any t _).mono ?_
    rintro e w4 ⟨rfl, gr4⟩
    rw [HD.out]
    obtain ⟨hc4, hf4, hz4⟩ := gcell gr4
    simp only [World.size_alloc] at hc4 hf4 hz4
    have G4 := keep (grown_trans G3.out (grown_trans (World.grownBy_alloc w3 _ none) gr4))
    clear gr4 G3
    have v24 : p < w3.heap.size + 1 := by omega
    have v25 : p < w4.heap.size := by omega
    have v26 : b < w3.heap.size + 1 := by omega
    have v27 : b < w4.heap.size := by omega
    have v28 : w2.heap.size < w3.heap.size + 1 := by omega
    have v29 : w2.heap.size < w4.heap.size := by omega
    have v30 : w3.heap.size < w4.heap.size := by omega
    have v31 : w2.heap.size ≠ p := by omega
    have v32 : p ≠ w2.heap.size := by omega
    have v33 : w2.heap.size ≠ b := by omega
    have v34 : b ≠ w2.heap.size := by omega
    have v35 : w2.heap.size ≠ w3.heap.size := by omega
    have v36 : w3.heap.size ≠ w2.heap.size := by omega
    go_wp2_with fail
    have INV4 := keep (INV.out.grown G4.out)
    refine (at_int ao g n (i + 1) _ (by omega) (fun i => tokOf (I i)) t2 _ hn (by omega) INV4.out.hao INV4.out.glt INV4.out.row HT2.out).mono ?_
    rintro e w5 ⟨rfl, gr5⟩
    obtain ⟨hc5, hf5, hz5⟩ := gcell gr5
    have G5 := keep (grown_trans G4.out gr5)
    clear gr5 INV4 G4
    have v37 : p < w5.heap.size := by omega
    have v38 : w2.heap.size < w5.heap.size := by omega
    have v39 : w3.heap.size < w5.heap.size := by omega
    have v40 : b < w5.heap.size := by omega
    have v41 : w2.heap.size ≠ w5.heap.size := by omega
    have v42 : w5.heap.size ≠ w2.heap.size := by omega
    go_wp2_with fail
    have G5' := keep (grown_alloc G5.out (.cells #[.string t2.kind, .string t2.text, .string t2.value, .int .i64 t2.start, .int .i64 t2.fin] 34))
    have INV5 := keep (INV.out.grown G5'.out)
    refine (at_int ao g n (i + 2) _ (by omega) (fun i => tokOf (I i)) t3 _ hn (by omega) INV5.out.hao INV5.out.glt INV5.out.row HT3.out).mono ?_
    rintro e w7 ⟨rfl, gr7⟩
    obtain ⟨hc7, hf7, hz7⟩ := gcell gr7
    simp only [World.size_alloc] at hc7 hf7 hz7
    have G7 := keep (grown_trans G5'.out gr7)
    clear gr7 INV5 G5 G5'
    have v43 : p < w5.heap.size + 1 := by omega
    have v44 : p < w7.heap.size := by omega
    have v45 : w2.heap.size < w5.heap.size + 1 := by omega
    have v46 : w2.heap.size < w7.heap.size := by omega
    have v47 : w3.heap.size < w5.heap.size + 1 := by omega
    have v48 : w3.heap.size < w7.heap.size := by omega
    have v49 : w5.heap.size < w5.heap.size + 1 := by omega
    have v50 : w5.heap.size < w7.heap.size := by omega
    have v51 : b < w5.heap.size + 1 := by omega
    have v52 : b < w7.heap.size := by omega
    have v53 : w2.heap.size ≠ w7.heap.size := by omega
    have v54 : w7.heap.size ≠ w2.heap.size := by omega
    go_wp2_with fail
    refine (isname_any t3 _).mono ?_
    rintro e w8 ⟨rfl, gr8⟩
    rw [HD3.out]
    obtain ⟨hc8, hf8, hz8⟩ := gcell gr8
    simp only [World.size_alloc] at hc8 hf8 hz8
    have G4 := keep (grown_trans G7.out (grown_trans (World.grownBy_alloc w7 _ none) gr8))
    clear gr8 G7
    have v55 : p < w7.heap.size + 1 := by omega
    have v56 : p < w8.heap.size := by omega
    have v57 : w2.heap.size < w7.heap.size + 1 := by omega
    have v58 : w2.heap.size < w8.heap.size := by omega
    have v59 : w3.heap.size < w7.heap.size + 1 := by omega
    have v60 : w3.heap.size < w8.heap.size := by omega
    have v61 : w5.heap.size < w7.heap.size + 1 := by omega
    have v62 : w5.heap.size < w8.heap.size := by omega
    have v63 : b < w7.heap.size + 1 := by omega
    have v64 : b < w8.heap.size := by omega
    have v65 : w7.heap.size < w8.heap.size := by omega
    go_wp2_with fail
    have G5 := keep (fail_grown G4.out (t := t3))
    refine (build_any a n cap I _ hn (HI.out.grown (grown_trans GR2.out G5.out))).mono ?_
    rintro e w6 ⟨⟨ao2, g2, rfl, hao2, hg2, hr2⟩, gr6⟩
    obtain ⟨hc6, hf6, hz6⟩ := gcell gr6
    simp only [World.size_setCell] at hc6 hf6 hz6
    have G6 := keep (grown_trans G5.out gr6)
    have ROW1 := keep (INV.out.grown G6.out)
    have ROW2 := keep (And.intro hr2 hao2)
    clear gr6 hr2 hao2 hg2 G4 G5
    go_wp2_with fail
    go_loopw [19] (fun j wr => ∃ k m : Nat, k ≤ n ∧ j = .int .i64 k ∧ wr = w6.drewN m) (fun j _ => n - (intOf j).toNat)
    case atStart => exact ⟨0, 0, Nat.zero_le _, rfl, rfl⟩
    case round =>
      obtain ⟨k, m, hk, rfl, rfl⟩ := hrel
      by_cases hkn : k < n
      · obtain rfl := ROW1.out.hao (by omega)
        obtain rfl := ROW2.out.2 (by omega)
        obtain ⟨x0, x1, x2, x3, x4⟩ := ROW1.out.row k hkn
        obtain ⟨y0, y1, y2, y3, y4⟩ := ROW2.out.1 k hkn
        go_wp2_with fail
        go_quiet (fail)
        go_wp2
        go_roundw
        case rel => exact ⟨k + 1, m + nq, by omega, by go_num, rfl⟩
        case measure => simp [intOf]; omega
      · cases he : eofB t3 with
        | true =>
          obtain rfl := E5.out he
          unfold eofB at he
          go_wp2
          go_ret
          exact ⟨rfl, grown_drewN (grown_trans GR2.out G6.out) _⟩
        | false =>
          unfold eofB at he
          go_wp2
          go_ret
          exact ⟨rfl, grown_drewN (grown_trans GR2.out G6.out) _⟩
  · have hst2 : step n (step n i + 1) = i + 2 := by rw [HST.out, step, if_neg (by omega)]
    rw [hst2] at q1
    clear hst2
    go_wp2_with fail
    have G2 := World.grownBy_alloc w2 (.cells #[.string ⟨#[]⟩, .string ⟨#[]⟩, .string ⟨#[]⟩, .int .i64 0, .int .i64 0] 34) none
    have INV2 := keep (INV.out.grown G2)
    refine (at_any ao g n i (fun i => tokOf (I i)) t _ hn (by omega) INV2.out.hao INV2.out.glt INV2.out.row HT.out).mono ?_
    rintro e w3 ⟨rfl, gr3⟩
    obtain ⟨hc3, hf3, hz3⟩ := gcell gr3
    simp only [World.size_alloc] at hc3 hf3 hz3
    have G3 := keep (grown_trans G2 gr3)
    clear gr3 INV2 G2
    have v19 : p < w2.heap.size + 1 := by omega
    have v20 : p < w3.heap.size := by omega
    have v21 : b < w2.heap.size + 1 := by omega
    have v22 : b < w3.heap.size := by omega
    have v23 : w2.heap.size < w3.heap.size := by omega
    go_wp2_with fail
    refine (isname_any t _).mono ?_
    rintro e w4 ⟨rfl, gr4⟩
    rw [HD.out]
    obtain ⟨hc4, hf4, hz4⟩ := gcell gr4
    simp only [World.size_alloc] at hc4 hf4 hz4
    have G4 := keep (grown_trans G3.out (grown_trans (World.grownBy_alloc w3 _ none) gr4))
    clear gr4 G3
    have v24 : p < w3.heap.size + 1 := by omega
    have v25 : p < w4.heap.size := by omega
    have v26 : b < w3.heap.size + 1 := by omega
    have v27 : b < w4.heap.size := by omega
    have v28 : w2.heap.size < w3.heap.size + 1 := by omega
    have v29 : w2.heap.size < w4.heap.size := by omega
    have v30 : w3.heap.size < w4.heap.size := by omega
    have v31 : w2.heap.size ≠ p := by omega
    have v32 : p ≠ w2.heap.size := by omega
    have v33 : w2.heap.size ≠ b := by omega
    have v34 : b ≠ w2.heap.size := by omega
    have v35 : w2.heap.size ≠ w3.heap.size := by omega
    have v36 : w3.heap.size ≠ w2.heap.size := by omega
    go_wp2_with fail
    have INV4 := keep (INV.out.grown G4.out)
    refine (at_int ao g n (i + 1) _ (by omega) (fun i => tokOf (I i)) t2 _ hn (by omega) INV4.out.hao INV4.out.glt INV4.out.row HT2.out).mono ?_
    rintro e w5 ⟨rfl, gr5⟩
    obtain ⟨hc5, hf5, hz5⟩ := gcell gr5
    have G5 := keep (grown_trans G4.out gr5)
    clear gr5 INV4 G4
    have v37 : p < w5.heap.size := by omega
    have v38 : w2.heap.size < w5.heap.size := by omega
    have v39 : w3.heap.size < w5.heap.size := by omega
    have v40 : b < w5.heap.size := by omega
    have v41 : w2.heap.size ≠ w5.heap.size := by omega
    have v42 : w5.heap.size ≠ w2.heap.size := by omega
    go_wp2_with fail
    have G5' := keep (grown_alloc G5.out (.cells #[.string t2.kind, .string t2.text, .string t2.value, .int .i64 t2.start, .int .i64 t2.fin] 34))
    have INV5 := keep (INV.out.grown G5'.out)
    refine (at_int ao g n (i + 2) _ (by omega) (fun i => tokOf (I i)) t3 _ hn (by omega) INV5.out.hao INV5.out.glt INV5.out.row HT3.out).mono ?_
    rintro e w7 ⟨rfl, gr7⟩
    obtain ⟨hc7, hf7, hz7⟩ := gcell gr7
    simp only [World.size_alloc] at hc7 hf7 hz7
    have G7 := keep (grown_trans G5'.out gr7)
    clear gr7 INV5 G5 G5'
    have v43 : p < w5.heap.size + 1 := by omega
    have v44 : p < w7.heap.size := by omega
    have v45 : w2.heap.size < w5.heap.size + 1 := by omega
    have v46 : w2.heap.size < w7.heap.size := by omega
    have v47 : w3.heap.size < w5.heap.size + 1 := by omega
    have v48 : w3.heap.size < w7.heap.size := by omega
    have v49 : w5.heap.size < w5.heap.size + 1 := by omega
    have v50 : w5.heap.size < w7.heap.size := by omega
    have v51 : b < w5.heap.size + 1 := by omega
    have v52 : b < w7.heap.size := by omega
    have v53 : w2.heap.size ≠ w7.heap.size := by omega
    have v54 : w7.heap.size ≠ w2.heap.size := by omega
    go_wp2_with fail
    refine (isname_any t3 _).mono ?_
    rintro e w8 ⟨rfl, gr8⟩
    rw [HD3.out]
    obtain ⟨hc8, hf8, hz8⟩ := gcell gr8
    simp only [World.size_alloc] at hc8 hf8 hz8
    have G4 := keep (grown_trans G7.out (grown_trans (World.grownBy_alloc w7 _ none) gr8))
    clear gr8 G7
    have v55 : p < w7.heap.size + 1 := by omega
    have v56 : p < w8.heap.size := by omega
    have v57 : w2.heap.size < w7.heap.size + 1 := by omega
    have v58 : w2.heap.size < w8.heap.size := by omega
    have v59 : w3.heap.size < w7.heap.size + 1 := by omega
    have v60 : w3.heap.size < w8.heap.size := by omega
    have v61 : w5.heap.size < w7.heap.size + 1 := by omega
    have v62 : w5.heap.size < w8.heap.size := by omega
    have v63 : b < w7.heap.size + 1 := by omega
    have v64 : b < w8.heap.size := by omega
    have v65 : w7.heap.size < w8.heap.size := by omega
    go_wp2_with fail
    have G5 := keep (fail_grown G4.out (t := t3))
    refine (build_any a n cap I _ hn (HI.out.grown (grown_trans GR2.out G5.out))).mono ?_
    rintro e w6 ⟨⟨ao2, g2, rfl, hao2, hg2, hr2⟩, gr6⟩
    obtain ⟨hc6, hf6, hz6⟩ := gcell gr6
    simp only [World.size_setCell] at hc6 hf6 hz6
    have G6 := keep (grown_trans G5.out gr6)
    have ROW1 := keep (INV.out.grown G6.out)
    have ROW2 := keep (And.intro hr2 hao2)
    clear gr6 hr2 hao2 hg2 G4 G5
    go_wp2_with fail
    go_loopw [19] (fun j wr => ∃ k m : Nat, k ≤ n ∧ j = .int .i64 k ∧ wr = w6.drewN m) (fun j _ => n - (intOf j).toNat)
    case atStart => exact ⟨0, 0, Nat.zero_le _, rfl, rfl⟩
    case round =>
      obtain ⟨k, m, hk, rfl, rfl⟩ := hrel
      by_cases hkn : k < n
      · obtain rfl := ROW1.out.hao (by omega)
        obtain rfl := ROW2.out.2 (by omega)
        obtain ⟨x0, x1, x2, x3, x4⟩ := ROW1.out.row k hkn
        obtain ⟨y0, y1, y2, y3, y4⟩ := ROW2.out.1 k hkn
        go_wp2_with fail
        go_quiet (fail)
        go_wp2
        go_roundw
        case rel => exact ⟨k + 1, m + nq, by omega, by go_num, rfl⟩
        case measure => simp [intOf]; omega
      · cases he : eofB t3 with
        | true =>
          obtain rfl := E5.out he
          unfold eofB at he
          go_wp2
          go_ret
          exact ⟨rfl, grown_drewN (grown_trans GR2.out G6.out) _⟩
        | false =>
          unfold eofB at he
          go_wp2
          go_ret
          exact ⟨rfl, grown_drewN (grown_trans GR2.out G6.out) _⟩

set_option maxRecDepth 100000 in
set_option maxHeartbeats 4000000 in
theorem law_d (F : Interp) (a : Option Addr) (n cap i : Nat) (pos : Int) (I : Nat → Inp) (w : World) (hF : F.answers w.tape) (hn : n ≤ 1048576) (hp0 : 0 ≤ pos) (hp1 : pos ≤ 255) (hst : pos % ((n : Int) + 3) = (i : Int)) (hin : i < n + 3) (h : ArgAny w a n cap I)
    (t : Tok) (ht : t = tokAt (fun i => tokOf (I i)) n i) (hd : nameB t = true) (t2 : Tok) (ht2 : t2 = tokAt (fun i => tokOf (I i)) n (i + 1)) (hd2 : dotB t2 = true) (t3 : Tok) (ht3 : t3 = tokAt (fun i => tokOf (I i)) n (i + 2)) (hd3 : nameB t3 = true) (hl1 : t.value.size ≤ 140737488351232) (hl3 : t3.value.size ≤ 140737488351232) :
    Calls Ybaf.prog 3 #[.slice a n cap, .int .u8 pos] w fun e w' => e = .returned (.bool true) ∧ w.grownBy w' none := by
  have HB := keep (build_any a n cap I w hn h)
  have HI := keep h
  have HT := keep ht
  have HD := keep hd
  have HT2 := keep ht2
  have HD2 := keep hd2
  have HT3 := keep ht3
  have HD3 := keep hd3
  have hlt : i < n := by have := HD.out; rw [HT.out] at this; exact name_lt this
  have hst1 : step n i = i + 1 := by rw [step, if_pos hlt]
  have HS : Hid (dotB (tokAt (fun i => tokOf (I i)) n (step n i)) = true) := by show dotB _ = true; rw [hst1, ← HT2.out]; exact HD2.out
  have HS3 : Hid (t3 = tokAt (fun i => tokOf (I i)) n (step n i + 1)) := by show t3 = _; rw [hst1]; exact HT3.out
  have h1 : opB t2 = true := by have := HD2.out; simp [dotB] at this; exact this.1
  have h2 : dotText t2 = true := by have := HD2.out; simp [dotB] at this; exact this.2
  unfold opB at h1
  unfold dotText at h2
  have HST := keep hst1
  clear hd ht2 hd2 hst1 ht3 hd3
  clear h ht
  go_enter Ybaf.func3, Ybaf.ntmps3
  go_wp2_with fail
  refine HB.out.mono ?_
  rintro e w1 ⟨⟨ao, g, rfl, hao, hg, hr⟩, gr1⟩
  have HR := keep hr
  have HG := keep hg
  have HAO := keep hao
  clear hr hg hao
  have gra := World.grownBy_alloc w1 (.cells #[.slice ao n n, .int .i64 i] 27) none
  have HI1 := keep (HI.out.grown gr1)
  have HR1 := keep (row_on (p := w1.heap.size) HR.out (fun hn => (HG.out hn).2) (fun hn => by have := (HG.out hn).2; omega) (grown_none gra _))
  have hF1 : F.answers w1.tape := by rw [gr1.tape]; exact hF
  go_wp2_with fail
  refine (setting_two F ao w1.heap.size g n i (fun i => tokOf (I i)) t _ hn (by omega) HAO.out (fun hn => by have := (HG.out hn).2; simp; omega) HR1.out (Par.new _ _ _) HT.out (by exact hF1) (fun hn => by have := (HG.out hn).2; omega) (by omega) HD.out HS.out t3 HS3.out HD3.out hl1 hl3).mono ?_
  rintro e w2 ⟨rfl, gr2, hp2⟩
  have gr2s := gr2.size
  simp only [World.size_alloc] at gr2s
  have INV := keep (show Inv w2 a cap I ao g n w1.heap.size (step n (step n i + 1)) from ⟨row_on HR1.out (fun hn => by have := (HG.out hn).2; simp; omega) (fun hn => by have := (HG.out hn).2; omega) gr2, fun hn => by have := (HG.out hn).2; omega, fun hn => by have := (HG.out hn).2; omega, hp2, HAO.out, ArgAny.grownP HI1.out gra gr2 (Nat.le_refl _)⟩)
  have GR2 : Hid (w.grownBy w2 none) := ⟨gr2.os.trans gr1.os, gr2.tape.trans gr1.tape, gr2.output.trans gr1.output, by have := gr1.size; omega, fun k hk _ => by
    rw [gr2.block k (by have := gr1.size; simp; omega) (by have := gr1.size; simp; omega), gra.block k (by have := gr1.size; omega) (by simp)]; exact gr1.block k hk (by simp)⟩
  have q0 := hp2.c0
  have q1 := hp2.c1
  have q2 := hp2.lt
  clear hp2 gr2 gra gr1 HR1 HI1 HR HG HAO HB hF1
  generalize w1.heap.size = p at *
  have hl4 : i + 2 < n := by have := HD3.out; rw [HT3.out] at this; exact name_lt this
  have hst2 : step n (step n i + 1) = i + 3 := by rw [HST.out, step, if_pos (by omega)]
  rw [hst2] at q1
  clear hst2
  go_wp2_with fail
  have G2 := World.grownBy_alloc w2 (.cells #[.string ⟨#[]⟩, .string ⟨#[]⟩, .string ⟨#[]⟩, .int .i64 0, .int .i64 0] 34) none
  have INV2 := keep (INV.out.grown G2)
  refine (at_any ao g n i (fun i => tokOf (I i)) t _ hn (by omega) INV2.out.hao INV2.out.glt INV2.out.row HT.out).mono ?_
  rintro e w3 ⟨rfl, gr3⟩
  obtain ⟨hc3, hf3, hz3⟩ := gcell gr3
  simp only [World.size_alloc] at hc3 hf3 hz3
  have G3 := keep (grown_trans G2 gr3)
  clear gr3 INV2 G2
  have v66 : p < w2.heap.size + 1 := by omega
  have v67 : p < w3.heap.size := by omega
  have v68 : w2.heap.size < w3.heap.size := by omega
  go_wp2_with fail
  refine (isname_any t _).mono ?_
  rintro e w4 ⟨rfl, gr4⟩
  rw [HD.out]
  obtain ⟨hc4, hf4, hz4⟩ := gcell gr4
  simp only [World.size_alloc] at hc4 hf4 hz4
  have G4 := keep (grown_trans G3.out (grown_trans (World.grownBy_alloc w3 _ none) gr4))
  clear gr4 G3
  have v69 : p < w3.heap.size + 1 := by omega
  have v70 : p < w4.heap.size := by omega
  have v71 : w2.heap.size < w3.heap.size + 1 := by omega
  have v72 : w2.heap.size < w4.heap.size := by omega
  have v73 : w3.heap.size < w4.heap.size := by omega
  have v74 : w2.heap.size ≠ p := by omega
  have v75 : p ≠ w2.heap.size := by omega
  have v76 : w2.heap.size ≠ w3.heap.size := by omega
  have v77 : w3.heap.size ≠ w2.heap.size := by omega
  go_wp2_with fail
  have INV4 := keep (INV.out.grown G4.out)
  refine (at_int ao g n (i + 1) _ (by omega) (fun i => tokOf (I i)) t2 _ hn (by omega) INV4.out.hao INV4.out.glt INV4.out.row HT2.out).mono ?_
  rintro e w5 ⟨rfl, gr5⟩
  obtain ⟨hc5, hf5, hz5⟩ := gcell gr5
  have G5 := keep (grown_trans G4.out gr5)
  clear gr5 INV4 G4
  have v78 : p < w5.heap.size := by omega
  have v79 : w2.heap.size < w5.heap.size := by omega
  have v80 : w3.heap.size < w5.heap.size := by omega
  have v81 : w2.heap.size ≠ w5.heap.size := by omega
  have v82 : w5.heap.size ≠ w2.heap.size := by omega
  go_wp2_with fail
  have G5' := keep (grown_alloc G5.out (.cells #[.string t2.kind, .string t2.text, .string t2.value, .int .i64 t2.start, .int .i64 t2.fin] 34))
  have INV5 := keep (INV.out.grown G5'.out)
  refine (at_int ao g n (i + 2) _ (by omega) (fun i => tokOf (I i)) t3 _ hn (by omega) INV5.out.hao INV5.out.glt INV5.out.row HT3.out).mono ?_
  rintro e w7 ⟨rfl, gr7⟩
  obtain ⟨hc7, hf7, hz7⟩ := gcell gr7
  simp only [World.size_alloc] at hc7 hf7 hz7
  have G7 := keep (grown_trans G5'.out gr7)
  clear gr7 INV5 G5 G5'
  have v83 : p < w5.heap.size + 1 := by omega
  have v84 : p < w7.heap.size := by omega
  have v85 : w2.heap.size < w5.heap.size + 1 := by omega
  have v86 : w2.heap.size < w7.heap.size := by omega
  have v87 : w3.heap.size < w5.heap.size + 1 := by omega
  have v88 : w3.heap.size < w7.heap.size := by omega
  have v89 : w5.heap.size < w5.heap.size + 1 := by omega
  have v90 : w5.heap.size < w7.heap.size := by omega
  have v91 : w2.heap.size ≠ w7.heap.size := by omega
  have v92 : w7.heap.size ≠ w2.heap.size := by omega
  go_wp2_with fail
  refine (isname_any t3 _).mono ?_
  rintro e w8 ⟨rfl, gr8⟩
  rw [HD3.out]
  obtain ⟨hc8, hf8, hz8⟩ := gcell gr8
  simp only [World.size_alloc] at hc8 hf8 hz8
  have G4 := keep (grown_trans G7.out (grown_trans (World.grownBy_alloc w7 _ none) gr8))
  clear gr8 G7
  have v93 : p < w7.heap.size + 1 := by omega
  have v94 : p < w8.heap.size := by omega
  have v95 : w2.heap.size < w7.heap.size + 1 := by omega
  have v96 : w2.heap.size < w8.heap.size := by omega
  have v97 : w3.heap.size < w7.heap.size + 1 := by omega
  have v98 : w3.heap.size < w8.heap.size := by omega
  have v99 : w5.heap.size < w7.heap.size + 1 := by omega
  have v100 : w5.heap.size < w8.heap.size := by omega
  have v101 : w7.heap.size < w8.heap.size := by omega
  go_wp2_with fail
  have G9 := keep (G4.out)
  refine (build_any a n cap I _ hn (HI.out.grown (grown_trans GR2.out G9.out))).mono ?_
  rintro e w6 ⟨⟨ao2, g2, rfl, hao2, hg2, hr2⟩, gr6⟩
  obtain ⟨hc6, hf6, hz6⟩ := gcell gr6
  have G6 := keep (grown_trans G9.out gr6)
  have ROW1 := keep (INV.out.grown G6.out)
  have ROW2 := keep (And.intro hr2 hao2)
  clear gr6 hr2 hao2 hg2 G9
  have v102 : p < w8.heap.size := by omega
  go_wp2_with fail
  go_loopw [19] (fun j wr => ∃ k m : Nat, k ≤ n ∧ j = .int .i64 k ∧ wr = w6.drewN m) (fun j _ => n - (intOf j).toNat)
  case atStart => exact ⟨0, 0, Nat.zero_le _, rfl, rfl⟩
  case round =>
    obtain ⟨k, m, hk, rfl, rfl⟩ := hrel
    by_cases hkn : k < n
    · obtain rfl := ROW1.out.hao (by omega)
      obtain rfl := ROW2.out.2 (by omega)
      obtain ⟨x0, x1, x2, x3, x4⟩ := ROW1.out.row k hkn
      obtain ⟨y0, y1, y2, y3, y4⟩ := ROW2.out.1 k hkn
      go_wp2_with fail
      go_quiet (fail)
      go_wp2
      go_roundw
      case rel => exact ⟨k + 1, m + nq, by omega, by go_num, rfl⟩
      case measure => simp [intOf]; omega
    · go_wp2
      go_ret
      exact ⟨rfl, grown_drewN (grown_trans GR2.out G6.out) _⟩

end Go.Proofs.YbulkgekqFmt
