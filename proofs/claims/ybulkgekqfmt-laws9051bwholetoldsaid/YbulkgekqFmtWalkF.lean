/-
  9051B, sixth text: the state that the law keeps; the law, where the first token is no name.
-/
import Derived.Test.YbulkgekqFmtWalkE
namespace Go.Proofs.YbulkgekqFmt
open Go.RowKit Go.Extern.Stop Go.Stop Go.Extern
set_option linter.unusedSimpArgs false
set_option linter.unusedVariables false

theorem assert37 (W : World) (v : Value) : (Instr.typeAssert (.iface 37 v) 29 37 true).run Ybaf.prog W = .ok (.tuple #[v, .bool true]) W := by kernel_rfl
attribute [local go_sem] assert37

theorem Par.new (w : World) (v : Value) (q : Int) : Par (w.alloc (.cells #[v, .int .i64 q] 27)) w.heap.size v q := by
  show (w.heap.push _)[w.heap.size]? = _
  simp

/-- what stands of the tokens and the parser. -/
structure Inv (w : World) (a : Option Addr) (cap : Nat) (I : Nat → Inp) (ao : Option Addr) (g n p q : Nat) : Prop where
  row : Row w g n (fun i => tokOf (I i))
  glt : 0 < n → g < w.heap.size
  gp : 0 < n → g ≠ p
  par : Par w p (.slice ao n n) q
  hao : 0 < n → ao = some ⟨g, 0, none⟩
  arg : ArgAny w a n cap I

theorem Inv.grown {w w' : World} {a : Option Addr} {cap : Nat} {I : Nat → Inp} {ao : Option Addr} {g n p q : Nat} (h : Inv w a cap I ao g n p q) (hg : w.grownBy w' none) : Inv w' a cap I ao g n p q :=
  ⟨row_on h.row h.glt h.gp (grown_none hg _), fun hn => Nat.lt_of_lt_of_le (h.glt hn) hg.size, h.gp, h.par.grown hg (by simp), h.hao, h.arg.grown hg⟩

theorem ArgAny.grownP {w w' : World} {a : Option Addr} {len cap p : Nat} {I : Nat → Inp} {W : World} (h : ArgAny W a len cap I) (h0 : W.grownBy w none) (hg : w.grownBy w' (some p)) (hp : W.heap.size ≤ p) : ArgAny w' a len cap I := by
  refine h.grown ⟨hg.os.trans h0.os, hg.tape.trans h0.tape, hg.output.trans h0.output, Nat.le_trans h0.size hg.size, fun i hi _ => ?_⟩
  rw [hg.block i (Nat.lt_of_lt_of_le hi h0.size) (by simp; omega)]
  exact h0.block i hi (by simp)

theorem World.size_setCell (w : World) (a : Addr) (u : Value) : (w.setCell a u).heap.size = w.heap.size := by simp [World.setCell]

theorem fail_grown {w w' : World} {t : Tok} (h : w.grownBy w' none) :
    w.grownBy (((((w'.setCell ⟨w.heap.size, 0, none⟩ (.string t.kind)).setCell ⟨w.heap.size, 1, none⟩ (.string t.text)).setCell ⟨w.heap.size, 2, none⟩ (.string t.value)).setCell ⟨w.heap.size, 3, none⟩ (.int .i64 t.start)).setCell ⟨w.heap.size, 4, none⟩ (.int .i64 t.fin)) none := by
  repeat (with_reducible first | exact h | refine grown_setCell ?_ (by exact Or.inl (by simp)) _)

set_option maxRecDepth 100000 in
set_option maxHeartbeats 4000000 in
theorem law_a (F : Interp) (a : Option Addr) (n cap i : Nat) (pos : Int) (I : Nat → Inp) (w : World) (hF : F.answers w.tape) (hn : n ≤ 1048576) (hp0 : 0 ≤ pos) (hp1 : pos ≤ 255) (hst : pos % ((n : Int) + 3) = (i : Int)) (hin : i < n + 3) (h : ArgAny w a n cap I)
    (t : Tok) (ht : t = tokAt (fun i => tokOf (I i)) n i) (hd : nameB t = false) :
    Calls Ybaf.prog 3 #[.slice a n cap, .int .u8 pos] w fun e w' => e = .returned (.bool true) ∧ w.grownBy w' none := by
  have HB := keep (build_any a n cap I w hn h)
  have HI := keep h
  have HT := keep ht
  have HD := keep hd
  clear hd
  clear h ht
  go_enter Ybaf.func3, Ybaf.ntmps3
  go_wp2_with fail
  refine HB.out.mono ?_
  rintro e w1 ⟨⟨ao, g, rfl, hao, hg, hr⟩, gr1⟩
  have HR := keep hr
  have HG := keep hg
  have HAO := keep hao
  clear hr hg hao
  have gra := World.grownBy_alloc w1 (.cells #[.slice ao n n, .int .i64 i] 27) none
  have HI1 := keep (HI.out.grown gr1)
  have HR1 := keep (row_on (p := w1.heap.size) HR.out (fun hn => (HG.out hn).2) (fun hn => by have := (HG.out hn).2; omega) (grown_none gra _))
  have hF1 : F.answers w1.tape := by rw [gr1.tape]; exact hF
  go_wp2_with fail
  refine (setting_no1 F ao w1.heap.size g n i (fun i => tokOf (I i)) t _ hn (by omega) HAO.out (fun hn => by have := (HG.out hn).2; simp; omega) HR1.out (Par.new _ _ _) HT.out (by exact hF1) (fun hn => by have := (HG.out hn).2; omega) HD.out).mono ?_
  rintro e w2 ⟨⟨v, rfl, he⟩, gr2, hp2⟩
  have gr2s := gr2.size
  simp only [World.size_alloc] at gr2s
  have INV := keep (show Inv w2 a cap I ao g n w1.heap.size (step n i) from ⟨row_on HR1.out (fun hn => by have := (HG.out hn).2; simp; omega) (fun hn => by have := (HG.out hn).2; omega) gr2, fun hn => by have := (HG.out hn).2; omega, fun hn => by have := (HG.out hn).2; omega, hp2, HAO.out, ArgAny.grownP HI1.out gra gr2 (Nat.le_refl _)⟩)
  have GR2 : Hid (w.grownBy w2 none) := ⟨gr2.os.trans gr1.os, gr2.tape.trans gr1.tape, gr2.output.trans gr1.output, by have := gr1.size; omega, fun k hk _ => by
    rw [gr2.block k (by have := gr1.size; simp; omega) (by have := gr1.size; simp; omega), gra.block k (by have := gr1.size; omega) (by simp)]; exact gr1.block k hk (by simp)⟩
  have q0 := hp2.c0
  have q1 := hp2.c1
  have q2 := hp2.lt
  obtain ⟨b, msg, rfl, e1, e2, e3, e4, e5⟩ := he
  simp only [World.size_alloc] at e1
  have E5 := keep e5
  clear e5
  clear hp2 gr2 gra gr1 HR1 HI1 HR HG HAO HB hF1
  generalize w1.heap.size = p at *
  by_cases hlt : i < n
  · have hst1 : step n i = i + 1 := by rw [step, if_pos hlt]
    rw [hst1] at q1
    clear hst1
    go_wp2_with fail
    have G2 := World.grownBy_alloc w2 (.cells #[.string ⟨#[]⟩, .string ⟨#[]⟩, .string ⟨#[]⟩, .int .i64 0, .int .i64 0] 34) none
    have INV2 := keep (INV.out.grown G2)
    refine (at_any ao g n i (fun i => tokOf (I i)) t _ hn (by omega) INV2.out.hao INV2.out.glt INV2.out.row HT.out).mono ?_
    rintro e w3 ⟨rfl, gr3⟩
    obtain ⟨hc3, hf3, hz3⟩ := gcell gr3
    simp only [World.size_alloc] at hc3 hf3 hz3
    have G3 := keep (grown_trans G2 gr3)
    clear gr3 INV2 G2
    have s1 : p < w2.heap.size + 1 := by omega
    have s2 : b < w2.heap.size + 1 := by omega
    have s3 : p < w3.heap.size := by omega
    have s4 : b < w3.heap.size := by omega
    have s5 : w2.heap.size < w3.heap.size := by omega
    go_wp2_with fail
    refine (isname_any t _).mono ?_
    rintro e w4 ⟨rfl, gr4⟩
    rw [HD.out]
    obtain ⟨hc4, hf4, hz4⟩ := gcell gr4
    simp only [World.size_alloc] at hc4 hf4 hz4
    have G4 := keep (grown_trans G3.out (grown_trans (World.grownBy_alloc w3 _ none) gr4))
    clear gr4 G3
    have r1 : p < w3.heap.size + 1 := by omega
    have r2 : b < w3.heap.size + 1 := by omega
    have r3 : p < w4.heap.size := by omega
    have r4 : b < w4.heap.size := by omega
    have r5 : w2.heap.size < w4.heap.size := by omega
    have r6 : w3.heap.size < w4.heap.size := by omega
    have r7 : w2.heap.size < w3.heap.size + 1 := by omega
    have n1 : w2.heap.size ≠ p := by omega
    have n2 : w2.heap.size ≠ b := by omega
    have n3 : w2.heap.size ≠ w3.heap.size := by omega
    have n4 : p ≠ w2.heap.size := by omega
    have n5 : b ≠ w2.heap.size := by omega
    go_wp2_with fail
    have G5 := keep (fail_grown G4.out (t := t))
    refine (build_any a n cap I _ hn (HI.out.grown (grown_trans GR2.out G5.out))).mono ?_
    rintro e w6 ⟨⟨ao2, g2, rfl, hao2, hg2, hr2⟩, gr6⟩
    obtain ⟨hc6, hf6, hz6⟩ := gcell gr6
    simp only [World.size_setCell] at hc6 hf6 hz6
    have G6 := keep (grown_trans G5.out gr6)
    have ROW1 := keep (INV.out.grown G6.out)
    have ROW2 := keep (And.intro hr2 hao2)
    clear gr6 hr2 hao2 hg2 G4 G5
    go_wp2_with fail
    go_loopw [19] (fun j wr => ∃ k m : Nat, k ≤ n ∧ j = .int .i64 k ∧ wr = w6.drewN m) (fun j _ => n - (intOf j).toNat)
    case atStart => exact ⟨0, 0, Nat.zero_le _, rfl, rfl⟩
    case round =>
      obtain ⟨k, m, hk, rfl, rfl⟩ := hrel
      by_cases hkn : k < n
      · obtain rfl := ROW1.out.hao (by omega)
        obtain rfl := ROW2.out.2 (by omega)
        obtain ⟨x0, x1, x2, x3, x4⟩ := ROW1.out.row k hkn
        obtain ⟨y0, y1, y2, y3, y4⟩ := ROW2.out.1 k hkn
        go_wp2_with fail
        go_quiet (fail)
        go_wp2
        go_roundw
        case rel => exact ⟨k + 1, m + nq, by omega, by go_num, rfl⟩
        case measure => simp [intOf]; omega
      · cases he : eofB t with
        | true =>
          obtain rfl := E5.out he
          unfold eofB at he
          go_wp2
          go_ret
          exact ⟨rfl, grown_drewN (grown_trans GR2.out G6.out) _⟩
        | false =>
          unfold eofB at he
          go_wp2
          go_ret
          exact ⟨rfl, grown_drewN (grown_trans GR2.out G6.out) _⟩
  · have hst1 : step n i = i := by rw [step, if_neg hlt]
    rw [hst1] at q1
    clear hst1
    go_wp2_with fail
    have G2 := World.grownBy_alloc w2 (.cells #[.string ⟨#[]⟩, .string ⟨#[]⟩, .string ⟨#[]⟩, .int .i64 0, .int .i64 0] 34) none
    have INV2 := keep (INV.out.grown G2)
    refine (at_any ao g n i (fun i => tokOf (I i)) t _ hn (by omega) INV2.out.hao INV2.out.glt INV2.out.row HT.out).mono ?_
    rintro e w3 ⟨rfl, gr3⟩
    obtain ⟨hc3, hf3, hz3⟩ := gcell gr3
    simp only [World.size_alloc] at hc3 hf3 hz3
    have G3 := keep (grown_trans G2 gr3)
    clear gr3 INV2 G2
    have s1 : p < w2.heap.size + 1 := by omega
    have s2 : b < w2.heap.size + 1 := by omega
    have s3 : p < w3.heap.size := by omega
    have s4 : b < w3.heap.size := by omega
    have s5 : w2.heap.size < w3.heap.size := by omega
    go_wp2_with fail
    refine (isname_any t _).mono ?_
    rintro e w4 ⟨rfl, gr4⟩
    rw [HD.out]
    obtain ⟨hc4, hf4, hz4⟩ := gcell gr4
    simp only [World.size_alloc] at hc4 hf4 hz4
    have G4 := keep (grown_trans G3.out (grown_trans (World.grownBy_alloc w3 _ none) gr4))
    clear gr4 G3
    have r1 : p < w3.heap.size + 1 := by omega
    have r2 : b < w3.heap.size + 1 := by omega
    have r3 : p < w4.heap.size := by omega
    have r4 : b < w4.heap.size := by omega
    have r5 : w2.heap.size < w4.heap.size := by omega
    have r6 : w3.heap.size < w4.heap.size := by omega
    have r7 : w2.heap.size < w3.heap.size + 1 := by omega
    have n1 : w2.heap.size ≠ p := by omega
    have n2 : w2.heap.size ≠ b := by omega
    have n3 : w2.heap.size ≠ w3.heap.size := by omega
    have n4 : p ≠ w2.heap.size := by omega
    have n5 : b ≠ w2.heap.size := by omega
    go_wp2_with fail
    have G5 := keep (fail_grown G4.out (t := t))
    refine (build_any a n cap I _ hn (HI.out.grown (grown_trans GR2.out G5.out))).mono ?_
    rintro e w6 ⟨⟨ao2, g2, rfl, hao2, hg2, hr2⟩, gr6⟩
    obtain ⟨hc6, hf6, hz6⟩ := gcell gr6
    simp only [World.size_setCell] at hc6 hf6 hz6
    have G6 := keep (grown_trans G5.out gr6)
    have ROW1 := keep (INV.out.grown G6.out)
    have ROW2 := keep (And.intro hr2 hao2)
    clear gr6 hr2 hao2 hg2 G4 G5
    go_wp2_with fail
    go_loopw [19] (fun j wr => ∃ k m : Nat, k ≤ n ∧ j = .int .i64 k ∧ wr = w6.drewN m) (fun j _ => n - (intOf j).toNat)
    case atStart => exact ⟨0, 0, Nat.zero_le _, rfl, rfl⟩
    case round =>
      obtain ⟨k, m, hk, rfl, rfl⟩ := hrel
      by_cases hkn : k < n
      · obtain rfl := ROW1.out.hao (by omega)
        obtain rfl := ROW2.out.2 (by omega)
        obtain ⟨x0, x1, x2, x3, x4⟩ := ROW1.out.row k hkn
        obtain ⟨y0, y1, y2, y3, y4⟩ := ROW2.out.1 k hkn
        go_wp2_with fail
        go_quiet (fail)
        go_wp2
        go_roundw
        case rel => exact ⟨k + 1, m + nq, by omega, by go_num, rfl⟩
        case measure => simp [intOf]; omega
      · cases he : eofB t with
        | true =>
          obtain rfl := E5.out he
          unfold eofB at he
          go_wp2
          go_ret
          exact ⟨rfl, grown_drewN (grown_trans GR2.out G6.out) _⟩
        | false =>
          unfold eofB at he
          go_wp2
          go_ret
          exact ⟨rfl, grown_drewN (grown_trans GR2.out G6.out) _⟩

end Go.Proofs.YbulkgekqFmt
