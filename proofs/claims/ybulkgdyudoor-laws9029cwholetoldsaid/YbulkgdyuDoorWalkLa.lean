/-
  9029C, last walk: the law (4).
-/
import Derived.Test.YbulkgdyuDoorWalkZ
import Derived.Test.YbulkgdyuDoorWalkR
import Derived.Test.YbulkgdyuDoorWalkK
import Derived.Test.YbulkgdyuDoorWalkLb
import Derived.Deep.CutBlock
namespace Go.Proofs.YbulkgdyuDoor.C
open Go.RowKit Go.Lib Go.Proofs.YbulkgdyuDoor
set_option linter.unusedSimpArgs false
set_option linter.unusedVariables false
attribute [local go_sem] ne_ev ne_nils eq_ev eq_nils

theorem rowb_shape {B : Nat} {w : World} {v : Value} {m : List UInt8} (h : RowB B w v m) : ∃ a c, v = .slice a m.length c := by
  rcases h with ⟨rfl, rfl⟩ | ⟨a, c, rfl, _⟩
  · exact ⟨none, 0, rfl⟩
  · exact ⟨some a, c, rfl⟩
theorem DAt.mono {B B' : Nat} {w : World} {dv : Value} {dl : List UInt8} (h : DAt B w dv dl) (hb : B ≤ B') : DAt B' w dv dl := by
  refine ⟨h.1, fun h0 => ?_⟩
  obtain ⟨db, o, dc, e, h1, h2, h3⟩ := h.2 h0
  exact ⟨db, o, dc, e, h1, by omega, h3⟩

theorem rowb_take {B t : Nat} {w : World} {a : Option Addr} {c : Nat} {l : List UInt8} (h : RowB B w (.slice a l.length c) l) (ht : t ≤ l.length) : RowB B w (.slice a t c) (l.take t) := by
  rcases h with ⟨h, rfl⟩ | ⟨ad, c', h, h1, h2⟩
  · obtain rfl : t = 0 := by simpa using ht
    exact Or.inl ⟨by simpa using h, rfl⟩
  · have hl : (l.take t).length = t := by simp; omega
    simp only [Value.slice.injEq, true_and] at h
    obtain ⟨rfl, rfl⟩ := h
    refine Or.inr ⟨ad, c, by rw [hl], fun h0 => h1 (by rw [hl] at h0; omega), fun j u hu => h2 j u ?_⟩
    have hj := (List.getElem?_eq_some_iff.1 hu).1
    rw [Lib.byteCells_length, hl] at hj
    simp only [Lib.byteCells, List.getElem?_map] at hu ⊢
    rwa [List.getElem?_take_of_lt hj] at hu

/-- all that came in, and the two clones, ahead of the reader. -/
structure Pre (w0 w : World) (pv dv hv qv : Value) (pl dl : List UInt8) (ea eo un : Addr) (own : Bool) : Prop where
  bel : Below w0.heap.size w0 w
  rp : RowB w.heap.size w pv pl
  rd : RowB w.heap.size w dv dl
  da : DAt w.heap.size w dv dl
  rh : RowB w.heap.size w hv dl
  rq : RowB w.heap.size w qv pl
  ge : GE w.heap.size w ea eo un
  ub : ∃ ca ta, w.heap[un.block]? = some (.cells ca ta (0, 0))
  ul : un.block < w.heap.size
  oe : (own = true → ea ≠ eo) ∧ (own = false → ea = eo)
  cap : ∀ a k c, hv = .slice a k c → k ≤ c

theorem pre_start {w0 w1 w2 : World} {pv dv hv qv : Value} {pl dl : List UInt8} {eo un : Addr} (hp : RowB w0.heap.size w0 pv pl) (hd : RowB w0.heap.size w0 dv dl) (hda : DAt w0.heap.size w0 dv dl)
    (c0 : w0.cell? ⟨0, 0, none⟩ = some (Ev eo)) (c1 : w0.cell? ⟨1, 0, none⟩ = some (Ev un)) (hbo : ∃ ca ta, w0.heap[eo.block]? = some (.cells ca ta (0, 0))) (hbu : ∃ ca ta, w0.heap[un.block]? = some (.cells ca ta (0, 0)))
    (h1 : w1.ownsRow w0.heap.size 5 1 hv dl.length (Lib.byteCells dl)) (b1 : Below w0.heap.size w0 w1) (h2 : w2.ownsRow w1.heap.size 5 1 qv pl.length (Lib.byteCells pl)) (b2 : Below w1.heap.size w1 w2) : Pre w0 w2 pv dv hv qv pl dl eo eo un false := by
  have s1 := b1.size
  have s2 := b2.size
  have b : Below w0.heap.size w0 w2 := b1.trans ⟨b2.os, b2.tape, b2.output, b2.size, fun k hk => b2.block k (by omega)⟩
  have hs1 : 1 < w0.heap.size := World.block_lt_of_cell? _ _ c1
  have lt : ∀ {i : Nat} {ca : Array Value} {ta : TypeId}, w0.heap[i]? = some (.cells ca ta (0, 0)) → i < w0.heap.size := fun h => (Array.getElem?_eq_some_iff.1 h).1
  obtain ⟨ca, ta, ho⟩ := hbo
  obtain ⟨cu, tu, hu⟩ := hbu
  have lo := lt ho
  have lu := lt hu
  refine ⟨b, (hp.kept (fun k hk => b.block k hk)).mono (by omega), (hd.kept (fun k hk => b.block k hk)).mono (by omega), (hda.kept (fun k hk => b.block k hk)).mono (by omega), ((own_rowB h1).kept (fun k hk => b2.block k hk)).mono (by omega), own_rowB h2, ⟨?_, ?_, by omega, ⟨ca, ta, (b.block _ lo).trans ho⟩, ⟨ca, ta, (b.block _ lo).trans ho⟩, by omega, by omega⟩, ⟨cu, tu, (b.block _ lu).trans hu⟩, by omega, by simp, ?_⟩
  · exact (World.cell?_of_block (b.block 0 (by omega))).trans c0
  · exact (World.cell?_of_block (b.block 1 (by omega))).trans c1
  · intro a k c e
    rcases h1.2 with ⟨rfl, h0⟩ | ⟨g, cap, cur, rfl, r1, r2, r3, _⟩
    · cases e; exact Nat.le_refl _
    · cases e; exact r3
theorem Pre.fresh {w0 w : World} {pv dv hv qv : Value} {pl dl : List UInt8} {eo un : Addr} (h : Pre w0 w pv dv hv qv pl dl eo eo un false) (s : ByteArray) : Pre w0 (w.alloc (.cells #[.string s] 55)) pv dv hv qv pl dl ⟨w.heap.size, 0, none⟩ eo un true := by
  have hs : (w.alloc (.cells #[.string s] 55)).heap.size = w.heap.size + 1 := by simp
  have hk : ∀ k, k < w.heap.size → (w.alloc (.cells #[.string s] 55)).heap[k]? = w.heap[k]? := fun k hk => Below.heap_alloc w _ k hk
  have hg := h.ge.kept hk
  have h1 := h.ge.b1
  have h2 := h.ge.lo
  have h3 := h.ul
  refine ⟨h.bel.alloc h.bel.size _, (h.rp.kept hk).mono (by omega), (h.rd.kept hk).mono (by omega), (h.da.kept hk).mono (by omega), (h.rh.kept hk).mono (by omega), (h.rq.kept hk).mono (by omega), ⟨hg.c0, hg.c1, by omega, ⟨_, _, heap_alloc_new w _⟩, hg.o, by simp, by omega⟩, by rw [hk _ h.ul]; exact h.ub, by omega, ⟨fun _ e => ?_, by simp⟩, h.cap⟩
  rw [← e] at h2
  exact Nat.lt_irrefl _ h2

/-- the input as the law lays it. -/
theorem in_start {w0 wc w4 w6 : World} {pv dv hv qv rv : Value} {pl dl : List UInt8} {ea eo un : Addr} {own : Bool} {z : Int} {cm : Nat} (hp : Pre w0 wc pv dv hv qv pl dl ea eo un own) (hcm : z = (cm : Int)) (hcm1 : 1 ≤ cm ∧ cm ≤ 7) (hsm : dl.length ≤ 1048576)
    (hbr : w4.heap[wc.heap.size + 1 + 1]? = some (brCells (wc.heap.size + 1 + 2) wc.heap.size 0 0 .nilIface (-1) (-1)))
    (hbf : ∃ cur : List Value, w4.heap[wc.heap.size + 1 + 2]? = some (.cells cur.toArray 5 (0, 0)) ∧ cur.length = 16384)
    (hfr : Fr (fun _ => False) (wc.alloc (.cells #[dv, .int .i64 0, .int .i64 z, Ev ea] 42)) w4)
    (ho : w6.ownsRow (w4.alloc (.cells #[.pointer (some ⟨wc.heap.size + 1 + 1, 0, none⟩), .slice none 0 0] 45)).heap.size 5 1 rv pl.length (Lib.byteCells pl))
    (hb : Below (w4.alloc (.cells #[.pointer (some ⟨wc.heap.size + 1 + 1, 0, none⟩), .slice none 0 0] 45)).heap.size (w4.alloc (.cells #[.pointer (some ⟨wc.heap.size + 1 + 1, 0, none⟩), .slice none 0 0] 45)) w6) :
    InSt wc.heap.size (w6.setCell ⟨w4.heap.size, 1, none⟩ rv) w4.heap.size wc.heap.size (wc.heap.size + 1 + 1) (wc.heap.size + 1 + 2) dv ea eo un dl cm 0 0 0 rv pl ∧ Below wc.heap.size wc (w6.setCell ⟨w4.heap.size, 1, none⟩ rv) := by
  subst hcm
  obtain ⟨cur, hc1, hc2⟩ := hbf
  have hA : (wc.alloc (.cells #[dv, .int .i64 0, .int .i64 cm, Ev ea] 42)).heap.size = wc.heap.size + 1 := by simp
  have h5 : (w4.alloc (.cells #[.pointer (some ⟨wc.heap.size + 1 + 1, 0, none⟩), .slice none 0 0] 45)).heap.size = w4.heap.size + 1 := by simp
  rw [h5] at ho hb
  have s4 : wc.heap.size + 1 + 2 < w4.heap.size := (Array.getElem?_eq_some_iff.1 hc1).1
  have hs := hb.size
  rw [h5] at hs
  have h6 : w6.heap[w4.heap.size]? = some (.cells #[.pointer (some ⟨wc.heap.size + 1 + 1, 0, none⟩), .slice none 0 0] 45 (0, 0)) := (hb.block _ (by omega)).trans (heap_alloc_new w4 _)
  have hset : ∀ k, k ≠ w4.heap.size → (w6.setCell ⟨w4.heap.size, 1, none⟩ rv).heap[k]? = w6.heap[k]? := fun k hk => Below.heap_setCell w6 ⟨w4.heap.size, 1, none⟩ rv k hk
  have hk : ∀ k, k < w4.heap.size → (w6.setCell ⟨w4.heap.size, 1, none⟩ rv).heap[k]? = w4.heap[k]? := fun k hk => (hset k (by omega)).trans ((hb.block k (by omega)).trans (Below.heap_alloc w4 _ k hk))
  have hlow : ∀ k, k < wc.heap.size → (w6.setCell ⟨w4.heap.size, 1, none⟩ rv).heap[k]? = wc.heap[k]? := fun k h => (hk k (by omega)).trans ((hfr.block k (by omega) (fun h => h)).trans (Below.heap_alloc wc _ k h))
  refine ⟨⟨⟨?_, ⟨_, _, (hk _ (by omega)).trans hbr⟩, ⟨cur, (hk _ (by omega)).trans hc1, hc2, fun j hj => absurd hj (Nat.not_lt_zero _)⟩, by omega, Nat.zero_le _, by omega, by omega, by omega, ⟨by omega, by omega, by omega⟩, hp.da.kept hlow, hsm, hcm1⟩, ?_, ?_, hp.ge.kept hlow, by omega, by omega, by omega, by omega, ?_⟩, ?_⟩
  · unfold RdAt
    rw [hk _ (by omega), hfr.block _ (by omega) (fun h => h)]
    exact heap_alloc_new wc _
  · simp [World.setCell, Array.getElem?_modify, h6]
  · refine ⟨ho.1, ?_⟩
    rcases ho.2 with h3 | ⟨g, cap, cu, rfl, r1, r2, r3⟩
    · exact Or.inl h3
    · exact Or.inr ⟨g, cap, cu, rfl, by omega, (hset g (by omega)).trans r2, r3⟩
  · intro g hg
    have := (ho.lt g hg).1
    omega
  · have e1 := hfr.os
    have e2 := hfr.tape
    have e3 := hfr.output
    refine ⟨hb.os.trans e1, hb.tape.trans e2, hb.output.trans e3, ?_, hlow⟩
    simp only [World.setCell, Array.size_modify]
    omega
theorem RawPost.frame {B : Nat} {w : World} {ib rb bb fb : Nat} {dv : Value} {ea eo un : Addr} {dl : List UInt8} {ch c : Nat} {l : List UInt8} {p : Nat × Bool} {e : Ending} {w' : World} (h : RawPost B w ib rb bb fb dv ea eo un dl ch c l p e w') : Fr (fun i => B ≤ i) w w' := by
  obtain ⟨_, _, _, h, _⟩ := h
  exact h
theorem raw_ret {B : Nat} {w : World} {ib rb bb fb : Nat} {dv : Value} {ea eo un : Addr} {dl : List UInt8} {ch c : Nat} {l : List UInt8} {p : Nat × Bool} {e : Ending} {w' : World} (h : RawPost B w ib rb bb fb dv ea eo un dl ch c l p e w') : ∃ er, e = .returned er := by
  obtain ⟨_, _, _, _, ⟨_, h, _⟩ | ⟨_, h⟩⟩ := h
  · exact ⟨_, h⟩
  · exact ⟨_, h⟩

set_option maxRecDepth 100000 in
set_option maxHeartbeats 4000000 in
theorem law_any {pv dv : Value} {pl dl : List UInt8} {eo un : Addr} (n : Int) (cz : Nat) (own : Bool) (w : World) (hn0 : -9223372036854775808 ≤ n) (hn1 : n ≤ 9223372036854775807) (hcz : cz < 256) (hpl : pl.length ≤ 1000000000000000) (hdl : dl.length ≤ 1000000000000000)
    (hp : RowB w.heap.size w pv pl) (hd : RowB w.heap.size w dv dl) (hda : DAt w.heap.size w dv dl) (c0 : w.cell? ⟨0, 0, none⟩ = some (Ev eo)) (c1 : w.cell? ⟨1, 0, none⟩ = some (Ev un)) (hne : un ≠ eo) (hbo : ∃ ca ta, w.heap[eo.block]? = some (.cells ca ta (0, 0))) (hbu : ∃ ca ta, w.heap[un.block]? = some (.cells ca ta (0, 0))) :
    Calls Ybad.prog 4 #[pv, dv, .int .i64 n, .int .u8 cz, .bool own] w fun e w' => e = .returned (.bool true) ∧ Below w.heap.size w w' := by
  have HP := keep hp
  have HD := keep hd
  have HDa := keep hda
  have HC0 := keep c0
  have HC1 := keep c1
  have HBo := keep hbo
  have HBu := keep hbu
  have HNe := keep hne
  obtain ⟨pa, pc, hpv⟩ := rowb_shape hp
  obtain ⟨da, dc, hdv⟩ := rowb_shape hd
  subst hpv
  subst hdv
  clear hp hd hda c0 c1 hbo hbu hne
  by_cases hsum : pl.length + dl.length ≤ 1048576
  case neg =>
    have e1 : (1048576 : Int) < (pl.length : Int) + (dl.length : Int) := by omega
    go_enter Ybad.func4, Ybad.ntmps4
    go_wp2_with fail
    go_ret
    exact ⟨rfl, Below.refl _ _⟩
  case pos =>
    have e1 : ¬ ((1048576 : Int) < (pl.length : Int) + (dl.length : Int)) := by omega
    go_enter Ybad.func4, Ybad.ntmps4
    go_wp2_with fail
    refine (clone_any w (by omega) HD.out).mono ?_
    rintro e w1 ⟨hv, rfl, ho1, hb1⟩
    have HO1 := keep ho1
    have HB1 := keep hb1
    clear ho1 hb1
    go_wp2_with fail
    refine (clone_any w1 (by omega) (HP.out.kept (fun k hk => HB1.out.block k hk))).mono ?_
    rintro e w2 ⟨qv, rfl, ho2, hb2⟩
    have HPre := keep (pre_start HP.out HD.out HDa.out HC0.out HC1.out HBo.out HBu.out HO1.out HB1.out ho2 hb2)
    obtain ⟨ha, hc, hhv⟩ := rowb_shape HPre.out.rh
    obtain ⟨qa, qc, hqv⟩ := rowb_shape HPre.out.rq
    clear HO1 HB1 ho2 hb2 HP HD HDa HC0 HC1 HBo HBu
    subst hhv
    subst hqv
    have c0 := HPre.out.ge.c0
    go_upto_if 40 with fail
    go_cut [13] (fun s13 wc => ∃ ea, s13 = Ev ea ∧ Pre w wc (.slice pa pl.length pc) (.slice da dl.length dc) (.slice ha dl.length hc) (.slice qa pl.length qc) pl dl ea eo un own)
    case first =>
      cases own
      · go_wp2_with fail
        go_meet
        exact ⟨eo, rfl, HPre.out⟩
      · go_wp2_with fail
        refine (new_any _ w2).mono ?_
        rintro e w3 ⟨rfl, hw3⟩
        rw [hw3]
        clear hw3
        go_wp2_with fail
        go_meet
        exact ⟨_, rfl, HPre.out.fresh _⟩
    case rest =>
      obtain ⟨ea, rfl, hpre⟩ := hcut
      obtain ⟨w3, hw3⟩ : ∃ x, x = wc := ⟨_, rfl⟩
      subst hw3
      clear HPre c0
      have HPre := keep hpre
      clear hpre
      obtain ⟨cm, hcm⟩ : ∃ cm : Nat, (cz : Int) % 7 + 1 = (cm : Int) := ⟨cz % 7 + 1, by omega⟩
      have hcm1 : 1 ≤ cm ∧ cm ≤ 7 := by omega
      have hNI := newInput_any w3.heap.size (w3.alloc (.cells #[.slice da dl.length dc, .int .i64 0, .int .i64 ((cz : Int) % 7 + 1), Ev ea] 42))
      rw [show (w3.alloc (.cells #[.slice da dl.length dc, .int .i64 0, .int .i64 ((cz : Int) % 7 + 1), Ev ea] 42)).heap.size = w3.heap.size + 1 by simp] at hNI
      have HNI := keep hNI
      have HCm := keep hcm
      clear hNI hcm
      go_wp2_with fail
      refine HNI.out.mono ?_
      rintro e w4 ⟨rfl, hbr, hbf, hfr4⟩
      have HBr := keep hbr
      have HBf := keep hbf
      have HFr4 := keep hfr4
      clear hbr hbf hfr4 HNI
      go_wp2_with fail
      refine (clone_any _ (by omega) (HPre.out.rp.kept (fun k hk => (Below.heap_alloc w4 _ k (by have := HFr4.out.size; simp at this; omega)).trans ((HFr4.out.block k (by simp; omega) (fun h => h)).trans (Below.heap_alloc w3 _ k hk))))).mono ?_
      rintro e w6 ⟨rv, rfl, ho6, hb6⟩
      obtain ⟨ra, rc, hrv⟩ := rowb_shape (own_rowB ho6)
      subst hrv
      have HIn := keep (in_start HPre.out HCm.out hcm1 (by omega) HBr.out HBf.out HFr4.out ho6 hb6)
      have h6 := (hb6.block w4.heap.size (by simp)).trans (heap_alloc_new w4 _)
      have i0 : w6.cell? ⟨w4.heap.size, 0, none⟩ = some (.pointer (some ⟨w3.heap.size + 1 + 1, 0, none⟩)) := by simp [World.cell?, h6]
      have i1 : w6.cell? ⟨w4.heap.size, 1, none⟩ = some (.slice none 0 0) := by simp [World.cell?, h6]
      have f1 : w6.frozen? ⟨w4.heap.size, 1, none⟩ = false := by simp [World.frozen?, h6]
      clear ho6 hb6 h6 HBr HBf HFr4 HCm
      obtain ⟨⟨t, wh⟩, hP⟩ : ∃ P, steps dl.length n.toNat pl.length 0 n = P := ⟨_, rfl⟩
      have ht : t ≤ dl.length := by have := steps_le dl.length n.toNat pl.length 0 n (Nat.zero_le _); rw [hP] at this; exact this.2
      have HP := keep hP
      clear hP
      go_wp2_with fail
      generalize w6.setCell ⟨w4.heap.size, 1, none⟩ (.slice ra pl.length rc) = w7 at HIn ⊢
      refine (raw_any n w7 hn0 hn1 (by omega) HNe.out (by rw [HIn.out.2.block _ HPre.out.ul]; exact HPre.out.ub) HPre.out.ul HIn.out.1).mono ?_
      rw [HP.out]
      rintro e w8 hraw
      obtain ⟨er, rfl⟩ := raw_ret hraw
      have HRaw := keep hraw
      clear hraw i0 i1 f1
      go_upto_block 0 with fail
      go_cut [17, 18, 20, 21, 22] (fun s17 s18 s20 s21 s22 wx => s20 = .int .i64 t ∧ s21 = .bool wh ∧ wx = w8)
      case first =>
        go_wp2_with fail
        go_loopg [17, 18, 20, 21, 22] n.toNat (fun gk s17 s18 s20 s21 s22 wr => ∃ (ni : Int) (Li ci : Nat), s17 = .int .i64 Li ∧ s18 = .int .i64 ni ∧ s20 = .int .i64 ci ∧ s21 = .bool true ∧ -9223372036854775808 ≤ ni ∧ ni ≤ 9223372036854775807 ∧ ni.toNat ≤ gk ∧ ci ≤ dl.length ∧ Li ≤ pl.length + ci ∧ steps dl.length gk Li ci ni = (t, wh) ∧ wr = w8)
        case atStart => exact ⟨n, pl.length, 0, rfl, rfl, rfl, rfl, hn0, hn1, Nat.le_refl _, Nat.zero_le _, Nat.le_refl _, HP.out, rfl⟩
        case round =>
          obtain ⟨ni, Li, ci, rfl, rfl, rfl, rfl, hb0, hb1, hgk, hci, hLi, hst, rfl⟩ := hrel
          have HSt := keep hst
          clear hst
          by_cases hpos : 0 < ni
          case pos =>
            obtain ⟨gk', rfl⟩ : ∃ gk', gk = gk' + 1 := ⟨gk - 1, by omega⟩
            obtain ⟨M, hM⟩ : ∃ M : Nat, max (Li : Int) 16384 = (M : Int) := ⟨max Li 16384, by omega⟩
            have hM1 : Li ≤ M ∧ 16384 ≤ M ∧ M ≤ 2097152 := by omega
            by_cases hlt : ni < (M : Int)
            case pos =>
              obtain ⟨s, rfl⟩ : ∃ s : Nat, ni = (s : Int) := ⟨ni.toNat, by omega⟩
              by_cases hav : (dl.length : Int) - (ci : Int) < (s : Int)
              case pos =>
                have HE := keep ((steps_fail hpos (show min (s : Int) (max (Li : Int) 16384) = (s : Int) by omega) (show dl.length < ci + s by omega)).symm.trans HSt.out)
                go_wp2_with fail
                go_meet
                have := HE.out
                exact ⟨by rw [(Prod.mk.inj this).1], by rw [(Prod.mk.inj this).2], rfl⟩
              case neg =>
                go_wp2_with fail
                go_roundg gk'
                case measure => omega
                case rel => exact ⟨_, Li + s, ci + s, by go_num, rfl, by go_num, rfl, by omega, by omega, by omega, by omega, by omega, (congrArg (steps dl.length gk' (Li + s) (ci + s)) (Int.sub_self (s : Int))).symm.trans <| (steps_next hpos (show min (s : Int) (max (Li : Int) 16384) = (s : Int) by omega) (show ci + s ≤ dl.length by omega)).symm.trans HSt.out, rfl⟩
            case neg =>
              by_cases hav : (dl.length : Int) - (ci : Int) < (M : Int)
              case pos =>
                have HE := keep ((steps_fail hpos (show min ni (max (Li : Int) 16384) = (M : Int) by omega) (show dl.length < ci + M by omega)).symm.trans HSt.out)
                go_wp2_with fail
                go_meet
                have := HE.out
                exact ⟨by rw [(Prod.mk.inj this).1], by rw [(Prod.mk.inj this).2], rfl⟩
              case neg =>
                go_wp2_with fail
                go_roundg gk'
                case measure => omega
                case rel => exact ⟨_, Li + M, ci + M, by go_num, rfl, by go_num, rfl, by omega, by omega, by omega, by omega, by omega, (steps_next hpos (show min ni (max (Li : Int) 16384) = (M : Int) by omega) (show ci + M ≤ dl.length by omega)).symm.trans HSt.out, rfl⟩
          case neg =>
            have HE := keep ((steps_done dl.length gk Li ci ni (by omega)).symm.trans HSt.out)
            go_wp2_with fail
            go_meet
            have := HE.out
            exact ⟨by rw [(Prod.mk.inj this).1], by rw [(Prod.mk.inj this).2], rfl⟩
      case rest =>
        obtain ⟨rfl, rfl, rfl⟩ := hcut
        have HB8 := keep (show Below w3.heap.size w3 wc from HIn.out.2.trans (HRaw.out.frame.below HIn.out.2.size (fun k hk e => by omega)))
        obtain ⟨i, hi, hz, hi1, hi2⟩ := i5
        obtain ⟨w9, hmk, hown9, hgr9⟩ := run_make_own (P := Ybad.prog) wc w3.heap.size 22 5 i (.int .u8 0) 1 Ybad.underlying22 hi hz hi1 .i64 .i64 (pl.length + t) (by rw [hi2]; omega) (by unfold maxLen; omega) HB8.out.size
        rw [Int.natCast_add] at hmk
        have HB9 := keep (show Below wc.heap.size wc w9 from (Below.refl wc.heap.size wc).grown hgr9 (Nat.le_refl _) (fun k hk => by cases hk))
        have HBuf := keep (Buf.start (l := []) hown9 (Nat.le_trans HB8.out.size hgr9.size))
        have HRQ := keep (show Row w9 (.slice qa pl.length qc) pl from (HPre.out.rq.kept (fun k hk => (HB9.out.block k (by have := HB8.out.size; omega)).trans (HB8.out.block k hk))).row)
        clear hi hz hi1 hi2 hown9 hgr9
        have hhc : t ≤ hc := Nat.le_trans ht (HPre.out.cap _ _ _ rfl)
        have hhc2 : (t : Int) ≤ (hc : Int) := by omega
        have HRH := keep (show ∀ v w', Buf w3.heap.size (.slice (some ⟨wc.heap.size, 0, none⟩) 0 (pl.length + t)) v ([] ++ pl) w9 w' → Row w' (.slice ha t hc) (dl.take t) from fun v w' hb => ((rowb_take HPre.out.rh ht).kept (fun k hk => (hb.fr.block k (by have h1 := HB8.out.size; have h2 := HB9.out.size; omega) (fun e => by have e' : wc.heap.size = k := Option.some.inj e; have h1 := HB8.out.size; omega)).trans ((HB9.out.block k (by have := HB8.out.size; omega)).trans (HB8.out.block k hk)))).row)
        go_upto_region 28 with (at_builtin; refine buf_slice rfl (.tmp 90) (.tmp 91) rfl HBuf.out rfl rfl pl HRQ.out (by simp only [List.length_nil]; omega) ?_; intro v10 w10 hb10; have HB10 := keep hb10; clear hb10)
        go_wp2_with (at_builtin; refine buf_slice rfl (.tmp 93) (.tmp 96) rfl HB10.out rfl rfl (dl.take t) (HRH.out _ _ HB10.out) (by simp only [List.length_append, List.length_nil, List.length_take]; omega) ?_; intro v11 w11 hb11; have HB11 := keep hb11; clear hb11)
        obtain ⟨rv', hblk, hown, hfr, hcase⟩ := HRaw.out
        have hseg : seg dl 0 (t - 0) = dl.take t := by simp [seg]
        rw [hseg] at hown
        have HBw := keep (show Below wc.heap.size wc w11 from HB9.out.trans (HB11.out.fr.below HB9.out.size (fun k hk e => by have e' : wc.heap.size = k := Option.some.inj e; omega)))
        have HRows := keep (show ∀ w', Below wc.heap.size wc w' → Row w' (.slice da dl.length dc) dl ∧ Row w' (.slice ha dl.length hc) dl ∧ Row w' (.slice pa pl.length pc) pl ∧ Row w' (.slice qa pl.length qc) pl ∧ Row w' rv' (pl ++ dl.take t) ∧ w'.heap[w4.heap.size]? = some (.cells #[.pointer (some ⟨w3.heap.size + 1 + 1, 0, none⟩), rv'] 45 (0, 0)) from fun w' hb => by
          have hlow : ∀ k, k < w3.heap.size → w'.heap[k]? = w3.heap[k]? := fun k hk => (hb.block k (by have := HB8.out.size; omega)).trans (HB8.out.block k hk)
          refine ⟨(HPre.out.rd.kept hlow).row, (HPre.out.rh.kept hlow).row, (HPre.out.rp.kept hlow).row, (HPre.out.rq.kept hlow).row, ?_, (hb.block _ (Array.getElem?_eq_some_iff.1 hblk).1).trans hblk⟩
          exact ((own_rowB hown).kept (fun k hk => hb.block k hk)).row)
        have HV := keep (show Row w11 v11 (pl ++ dl.take t) from by have h := (own_rowB HB11.out.own).row; simpa using h)
        have HCase := keep hcase
        have hll : (pl ++ dl.take t).length ≤ 100000000 := by simp; omega
        clear hblk hown hfr hcase hseg HB9 HB10 HB11 HBuf HRQ HRH hmk HRaw
        refine (equal_rows (l := dl) (by omega) (HRows.out w11 HBw.out).1 (HRows.out w11 HBw.out).2.1).mono ?_
        rintro e w12 ⟨rfl, m1, hm1⟩
        have HB12 := keep (show Below wc.heap.size wc w12 by rw [hm1]; exact ⟨HBw.out.os, HBw.out.tape, HBw.out.output, HBw.out.size, HBw.out.block⟩)
        have HV12 := keep (show Row w12 v11 (pl ++ dl.take t) by rw [hm1]; exact HV.out)
        clear hm1 HV HBw
        go_wp2_with fail
        refine (equal_rows (l := pl) (by omega) (HRows.out w12 HB12.out).2.2.1 (HRows.out w12 HB12.out).2.2.2.1).mono ?_
        rintro e w13 ⟨rfl, m2, hm2⟩
        have HB13 := keep (show Below wc.heap.size wc w13 by rw [hm2]; exact ⟨HB12.out.os, HB12.out.tape, HB12.out.output, HB12.out.size, HB12.out.block⟩)
        have HV13 := keep (show Row w13 v11 (pl ++ dl.take t) by rw [hm2]; exact HV12.out)
        clear hm2 HV12 HB12
        have i1 : w13.cell? ⟨w4.heap.size, 1, none⟩ = some rv' := by simp [World.cell?, (HRows.out w13 HB13.out).2.2.2.2.2]
        go_wp2_with fail
        refine (equal_rows (l := pl ++ dl.take t) hll (HRows.out w13 HB13.out).2.2.2.2.1 HV13.out).mono ?_
        rintro e w14 ⟨rfl, m3, hm3⟩
        have HB14 := keep (show Below wc.heap.size wc w14 by rw [hm3]; exact ⟨HB13.out.os, HB13.out.tape, HB13.out.output, HB13.out.size, HB13.out.block⟩)
        clear hm3 HV13 HB13 i1 hll
        have HBl := keep (show Below w3.heap.size w3 w14 from HB8.out.trans ⟨HB14.out.os, HB14.out.tape, HB14.out.output, HB14.out.size, fun k hk => HB14.out.block k (by have := HB8.out.size; omega)⟩)
        have HBz := keep (show ∀ w', Below w3.heap.size w3 w' → Below w.heap.size w w' from fun w' hb => HPre.out.bel.trans ⟨hb.os, hb.tape, hb.output, hb.size, fun k hk => hb.block k (by have := HPre.out.bel.size; omega)⟩)
        have HIb := keep (HRows.out w14 HB14.out).2.2.2.2.2
        rcases HCase.out with ⟨rfl, her, k, r, hst⟩ | ⟨rfl, her⟩
        · injection her with her
          subst her
          have hst14 : St w3.heap.size w14 w3.heap.size (w3.heap.size + 1 + 1) (w3.heap.size + 1 + 2) (.slice da dl.length dc) ea dl cm t k r .nilIface := by
            obtain ⟨x1, x2, hbr⟩ := hst.br
            obtain ⟨cur, hc1, hc2, hc3⟩ := hst.buf
            have lt : ∀ {i : Nat} {o : Obj}, wc.heap[i]? = some o → w14.heap[i]? = some o := fun h => (HB14.out.block _ (Array.getElem?_eq_some_iff.1 h).1).trans h
            exact ⟨lt hst.rd, ⟨x1, x2, lt hbr⟩, ⟨cur, lt hc1, hc2, hc3⟩, hst.fit, hst.le, hst.ne1, hst.ne2, hst.ne3, hst.lo, hst.data.kept (fun k hk => HB14.out.block k (by have := HB8.out.size; omega)), hst.small, hst.chs⟩
          have HSt := keep hst14
          clear hst hst14 HCase HRows HB14 HB8
          go_wp2_with fail
          go_loopg [24, 25, 26] (dl.length - t) (fun gk s24 s25 s26 wr => ∃ ci k r, s24 = .int .i64 (ci : Nat) ∧ ci ≤ dl.length ∧ gk = dl.length - ci ∧ St w3.heap.size wr w3.heap.size (w3.heap.size + 1 + 1) (w3.heap.size + 1 + 2) (.slice da dl.length dc) ea dl cm ci k r .nilIface ∧ Below w3.heap.size w3 wr ∧ wr.heap[w4.heap.size]? = some (.cells #[.pointer (some ⟨w3.heap.size + 1 + 1, 0, none⟩), rv'] 45 (0, 0)))
          case atStart => exact ⟨t, k, r, rfl, ht, rfl, HSt.out, HBl.out, HIb.out⟩
          case round =>
            obtain ⟨ci, k1, r1, rfl, hci, rfl, hst, hbl, hib⟩ := hrel
            have HS1 := keep hst
            have HBl1 := keep hbl
            have HIb1 := keep hib
            have i0 : wr.cell? ⟨w4.heap.size, 0, none⟩ = some (.pointer (some ⟨w3.heap.size + 1 + 1, 0, none⟩)) := by simp [World.cell?, hib]
            clear hst hbl hib
            have HNx := keep (show ∀ w', Fr (S3 w3.heap.size (w3.heap.size + 1 + 1) (w3.heap.size + 1 + 2)) wr w' → Below w3.heap.size w3 w' ∧ w'.heap[w4.heap.size]? = some (.cells #[.pointer (some ⟨w3.heap.size + 1 + 1, 0, none⟩), rv'] 45 (0, 0)) from fun w' hf =>
              ⟨HBl1.out.trans (hf.below HBl1.out.size (fun k hk e => by have e' : k = w3.heap.size ∨ k = w3.heap.size + 1 + 1 ∨ k = w3.heap.size + 1 + 2 := e; omega)), (hf.block _ (Array.getElem?_eq_some_iff.1 HIb1.out).1 (fun e => by
                have e' : w4.heap.size = w3.heap.size ∨ w4.heap.size = w3.heap.size + 1 + 1 ∨ w4.heap.size = w3.heap.size + 1 + 2 := e
                have h1 := HIn.out.1.n1
                have h2 := HIn.out.1.n2
                have h3 := HIn.out.1.n3
                omega)).trans HIb1.out⟩)
            by_cases hlt : ci < dl.length
            case pos =>
              have hlt2 : (ci : Int) < (dl.length : Int) := by omega
              obtain ⟨a0, cc, hsh, hcell⟩ := row_cells (HPre.out.rh.kept (fun k hk => HBl1.out.block k hk)).row
              obtain ⟨hbk, hof, hsome, hcl⟩ := hcell (by omega)
              simp only [Value.slice.injEq] at hsh
              obtain ⟨rfl, _, rfl⟩ := hsh
              subst hsome
              have HCl := keep (show ∀ w', Below w3.heap.size w3 w' → w'.cell? ⟨hbk, hof + ci, none⟩ = some (.int .u8 (((dl.getD ci 0).toNat : Nat) : Int)) from fun w' hb => by
                obtain ⟨a1, c1, hsh1, hcell1⟩ := row_cells (HPre.out.rh.kept (fun k hk => hb.block k hk)).row
                obtain ⟨b1, o1, hsome1, hcl1⟩ := hcell1 (by omega)
                simp only [Value.slice.injEq] at hsh1
                obtain ⟨rfl, _, rfl⟩ := hsh1
                simp only [Option.some.injEq, Addr.mk.injEq, and_true] at hsome1
                obtain ⟨rfl, rfl⟩ := hsome1
                exact hcl1 ci hlt)
              have hx : (dl.getD ci 0).toNat < 256 := UInt8.toNat_lt _
              clear hcell hcl
              go_wp2_with fail
              refine (byte_any wr HS1.out).mono ?_
              rintro e w15 ⟨hf, ⟨rfl, k2, r2, hs2⟩ | ⟨hc, _⟩⟩
              · have HNx2 := keep (HNx.out w15 hf)
                have HS2 := keep hs2
                have cx := HCl.out w15 HNx2.out.1
                clear hf hs2
                go_wp2_with fail
                go_roundg (dl.length - (ci + 1))
                case measure => omega
                case rel => exact ⟨ci + 1, k2, r2, by go_num, by omega, rfl, HS2.out, HNx2.out.1, HNx2.out.2⟩
              · omega
            case neg =>
              have hlt2 : ¬ ((ci : Int) < (dl.length : Int)) := by omega
              go_wp2_with fail
              refine (byte_any wr HS1.out).mono ?_
              rintro e w15 ⟨hf, ⟨rfl, k2, r2, hs2⟩ | ⟨hc, rfl, _⟩⟩
              · have := hs2.le
                omega
              · have HNx2 := keep (HNx.out w15 hf)
                have q := eq_same w15 ea
                clear hf hc
                go_wp2_with fail
                go_ret
                exact ⟨rfl, HBz.out _ HNx2.out.1⟩
        · injection her with her
          subst her
          clear HCase HRows HB14 HB8
          have hge := HPre.out.ge.kept (w' := w14) (fun k hk => HBl.out.block k hk)
          cases own
          · obtain rfl := HPre.out.oe.2 rfl
            rw [show outErr ea ea un = Ev un by simp [outErr]]
            have c1 := hge.c1
            have q := eq_same w14 un
            clear hge
            go_wp2_with fail
            go_ret
            exact ⟨rfl, HBz.out _ HBl.out⟩
          · rw [show outErr ea eo un = Ev ea by simp [outErr, HPre.out.oe.1 rfl]]
            have q := eq_same w14 ea
            clear hge
            go_wp2_with fail
            go_ret
            exact ⟨rfl, HBz.out _ HBl.out⟩
end Go.Proofs.YbulkgdyuDoor.C
