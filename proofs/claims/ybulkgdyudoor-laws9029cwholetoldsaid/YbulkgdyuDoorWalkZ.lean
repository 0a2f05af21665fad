/-
  9029C, twelfth text: readRaw (13).
-/
import Derived.Test.YbulkgdyuDoorWalkY
namespace Go.Proofs.YbulkgdyuDoor.C
open Go.RowKit Go.Lib Go.Proofs.YbulkgdyuDoor
set_option linter.unusedSimpArgs false
set_option linter.unusedVariables false
attribute [local go_sem] ne_ev ne_nils eq_ev eq_nils

/-- the steps of readRaw, and of the law's own loop: how far it comes, and whether every step is met. -/
def steps (len : Nat) : Nat → Nat → Nat → Int → Nat × Bool
  | 0, L, c, rem => (c, true)
  | f + 1, L, c, rem => if rem ≤ 0 then (c, true) else if c + (min rem (max L 16384 : Nat)).toNat ≤ len then steps len f (L + (min rem (max L 16384 : Nat)).toNat) (c + (min rem (max L 16384 : Nat)).toNat) (rem - min rem (max L 16384 : Nat)) else (c, false)

/-- the input: its block, the reader's, and the raw bytes. -/
structure InSt (B : Nat) (w : World) (ib rb bb fb : Nat) (dv : Value) (ea eo un : Addr) (dl : List UInt8) (ch c k r : Nat) (rv : Value) (l : List UInt8) : Prop where
  st : St B w rb bb fb dv ea dl ch c k r .nilIface
  blk : w.heap[ib]? = some (.cells #[.pointer (some ⟨bb, 0, none⟩), rv] 45 (0, 0))
  own : w.ownsRow B 5 1 rv l.length (Lib.byteCells l)
  ge : GE B w ea eo un
  n1 : ib ≠ rb
  n2 : ib ≠ bb
  n3 : ib ≠ fb
  lo : B ≤ ib
  far : ∀ g, rv.ownBlock = some g → g ≠ rb ∧ g ≠ bb ∧ g ≠ fb ∧ g ≠ ib

theorem steps_done (len f L c : Nat) (rem : Int) (h : rem ≤ 0) : steps len f L c rem = (c, true) := by
  cases f with
  | zero => rfl
  | succ f => rw [steps, if_pos h]
theorem steps_next {len f L c s : Nat} {rem : Int} (h : 0 < rem) (hs : min rem (max (L : Int) 16384) = (s : Int)) (hc : c + s ≤ len) : steps len (f + 1) L c rem = steps len f (L + s) (c + s) (rem - s) := by
  have e : min rem ((max L 16384 : Nat) : Int) = (s : Int) := by rw [← hs]; congr 1; omega
  rw [steps, if_neg (by omega), e, Int.toNat_natCast, if_pos hc]
theorem steps_fail {len f L c s : Nat} {rem : Int} (h : 0 < rem) (hs : min rem (max (L : Int) 16384) = (s : Int)) (hc : len < c + s) : steps len (f + 1) L c rem = (c, false) := by
  have e : min rem ((max L 16384 : Nat) : Int) = (s : Int) := by rw [← hs]; congr 1; omega
  rw [steps, if_neg (by omega), e, Int.toNat_natCast, if_neg (by omega)]
theorem steps_le (len : Nat) : ∀ (f L c : Nat) (rem : Int), c ≤ len → c ≤ (steps len f L c rem).1 ∧ (steps len f L c rem).1 ≤ len := by
  intro f
  induction f with
  | zero => intro L c rem h; exact ⟨Nat.le_refl _, h⟩
  | succ f ih =>
    intro L c rem h
    rw [steps]
    split
    · exact ⟨Nat.le_refl _, h⟩
    · split
      · rename_i h1 h2
        have := ih (L + (min rem ((max L 16384 : Nat) : Int)).toNat) (c + (min rem ((max L 16384 : Nat) : Int)).toNat) (rem - min rem ((max L 16384 : Nat) : Int)) h2
        omega
      · exact ⟨Nat.le_refl _, h⟩
theorem take_splice {α : Type} (L : List α) (off : Nat) (cs : List α) (h : off + cs.length ≤ L.length) : (splice L off cs).take (off + cs.length) = L.take off ++ cs := by
  have h1 : (L.take off ++ cs).length = off + cs.length := by simp; omega
  have e : splice L off cs = (L.take off ++ cs) ++ L.drop (off + cs.length) := by simp [splice]
  rw [e, ← h1, List.take_left]
theorem own_splice {B g cap c n : Nat} {w : World} {cur : List Value} {li dl : List UInt8} (h : w.heap[g]? = some (.cells (splice cur li.length (Lib.byteCells (seg dl c n))).toArray 5 (0, 0))) (hB : B ≤ g) (hl : cur.length = cap) (hm : cap ≤ maxLen) (hc : li.length + n ≤ cap) (ht : cur.take li.length = Lib.byteCells li) (hn : c + n ≤ dl.length) :
    w.ownsRow B 5 1 (.slice (some ⟨g, 0, none⟩) (li.length + n) cap) (li ++ seg dl c n).length (Lib.byteCells (li ++ seg dl c n)) ∧ w.ownsRow B 5 1 (.slice (some ⟨g, 0, none⟩) li.length cap) li.length (Lib.byteCells li) := by
  have hsl := seg_len dl c n hn
  have hbl : (Lib.byteCells (seg dl c n)).length = n := by rw [Lib.byteCells_length, hsl]
  have h1 := take_splice cur li.length (Lib.byteCells (seg dl c n)) (by omega)
  rw [hbl, ht] at h1
  have h2 : (splice cur li.length (Lib.byteCells (seg dl c n))).length = cap := by rw [length_splice _ _ _ (by omega)]; exact hl
  refine ⟨⟨by rw [Lib.byteCells_length, Nat.mul_one], Or.inr ⟨g, cap, _, by rw [List.length_append, hsl], hB, h, by rw [List.length_append, hsl]; exact hc, hm, by simp [h2], ?_⟩⟩, ⟨by rw [Lib.byteCells_length, Nat.mul_one], Or.inr ⟨g, cap, _, rfl, hB, h, by omega, hm, by simp [h2], ?_⟩⟩⟩
  · rw [Nat.mul_one, List.length_append, hsl, Lib.byteCells_append, ← h1]
  · have h3 := congrArg (List.take li.length) h1
    rw [List.take_take, Nat.min_eq_left (by omega), List.take_left' (by rw [Lib.byteCells_length])] at h3
    rw [Nat.mul_one]
    exact h3
/-- how readRaw ends. -/
def RawPost (B : Nat) (w : World) (ib rb bb fb : Nat) (dv : Value) (ea eo un : Addr) (dl : List UInt8) (ch c : Nat) (l : List UInt8) (p : Nat × Bool) (e : Ending) (w' : World) : Prop :=
  ∃ rv', w'.heap[ib]? = some (.cells #[.pointer (some ⟨bb, 0, none⟩), rv'] 45 (0, 0)) ∧ w'.ownsRow B 5 1 rv' (l ++ seg dl c (p.1 - c)).length (Lib.byteCells (l ++ seg dl c (p.1 - c))) ∧ Fr (fun i => B ≤ i) w w' ∧
    ((p.2 = true ∧ e = .returned .nilIface ∧ ∃ k' r', St B w' rb bb fb dv ea dl ch p.1 k' r' .nilIface) ∨ (p.2 = false ∧ e = .returned (outErr ea eo un)))

set_option maxRecDepth 100000 in
set_option maxHeartbeats 4000000 in
theorem raw_any {B ib rb bb fb ch c k r : Nat} {dv rv : Value} {ea eo un : Addr} {dl l : List UInt8} (n : Int) (w : World) (hn0 : -9223372036854775808 ≤ n) (hn1 : n ≤ 9223372036854775807) (hl : l.length + dl.length ≤ 8388608) (hne : un ≠ eo) (hub : ∃ ca ta, w.heap[un.block]? = some (.cells ca ta (0, 0))) (hul : un.block < B) (h : InSt B w ib rb bb fb dv ea eo un dl ch c k r rv l) :
    Calls Ybad.prog 13 #[.pointer (some ⟨ib, 0, none⟩), .int .i64 n] w fun e w' => RawPost B w ib rb bb fb dv ea eo un dl ch c l (steps dl.length n.toNat l.length c n) e w' := by
  have HI := keep h
  have HUb := keep hub
  clear h hub
  generalize hP : steps dl.length n.toNat l.length c n = P
  go_enter Ybad.func13, Ybad.ntmps13
  go_wp2_with fail
  go_loopg [1] n.toNat (fun gk s1 wr => ∃ (ni : Int) (ci ki ri : Nat) (rvi : Value) (li : List UInt8), s1 = .int .i64 ni ∧ ni ≤ 9223372036854775807 ∧ -9223372036854775808 ≤ ni ∧ ni.toNat ≤ gk ∧ InSt B wr ib rb bb fb dv ea eo un dl ch ci ki ri rvi li ∧ c ≤ ci ∧ li = l ++ seg dl c (ci - c) ∧ Fr (fun i => B ≤ i) w wr ∧ steps dl.length gk li.length ci ni = P)
  case atStart => exact ⟨n, c, k, r, rv, l, rfl, hn1, hn0, Nat.le_refl _, HI.out, Nat.le_refl _, by simp [seg], Fr.refl _ _, hP⟩
  case round =>
    obtain ⟨ni, ci, ki, ri, rvi, li, rfl, hb1, hb0, hgk, hin, hci, hli, hfr, hsp⟩ := hrel
    have HSp := keep hsp
    have hcd : ci ≤ dl.length := by have := hin.st.le; omega
    have hlil : li.length = l.length + (ci - c) := by rw [hli, List.length_append, seg_len dl c (ci - c) (by omega)]
    clear hsp
    have HIn := keep hin
    have HLi := keep hli
    have HFr := keep hfr
    clear hli
    have i0 : wr.cell? ⟨ib, 0, none⟩ = some (.pointer (some ⟨bb, 0, none⟩)) := by simp [World.cell?, hin.blk]
    have i1 : wr.cell? ⟨ib, 1, none⟩ = some rvi := by simp [World.cell?, hin.blk]
    have f1 : wr.frozen? ⟨ib, 1, none⟩ = false := by simp [World.frozen?, hin.blk]
    have hll : li.length ≤ 8388608 := by omega
    clear hlil
    obtain ⟨ra, rc, hrv⟩ : ∃ a c, rvi = .slice a li.length c := by
      rcases hin.own.2 with ⟨rfl, h0⟩ | ⟨g, cap, cur, rfl, _⟩
      · exact ⟨none, 0, by rw [h0]⟩
      · exact ⟨_, _, rfl⟩
    rw [hrv] at i1
    have HRv := keep hrv
    by_cases hpos : 0 < ni
    · obtain ⟨s, hs⟩ : ∃ s : Nat, min ni (max (li.length : Int) 16384) = (s : Int) := ⟨(min ni (max (li.length : Int) 16384)).toNat, by omega⟩
      have hs1 : 0 < s := by omega
      have hs2 : s ≤ 8388608 := by omega
      have hBr : B ≤ wr.heap.size := by have h1 := hin.st.lo; have h2 := (Array.getElem?_eq_some_iff.1 hin.blk).1; have h3 := hin.lo; omega
      clear hin hfr
      go_wp2_with fail
      rw [← HRv.out]
      refine (grow_any wr HIn.out.own hBr hs1 (by omega)).mono ?_
      rintro e w2 ⟨x, rfl, g, cap, cur, rfl, hg1, hg2, hg3, hg4, hg5, hg6, hg7, hg8⟩
      have hib := (hg7.block ib (Array.getElem?_eq_some_iff.1 HIn.out.blk).1 (fun h => h)).trans HIn.out.blk
      have hgi : g ≠ ib ∧ g ≠ rb ∧ g ≠ bb ∧ g ≠ fb := by
        have b1 := (Array.getElem?_eq_some_iff.1 HIn.out.blk).1
        have b2 := (Array.getElem?_eq_some_iff.1 (show wr.heap[rb]? = _ from HIn.out.st.rd)).1
        obtain ⟨_, _, b3⟩ := HIn.out.st.br
        have b3' := (Array.getElem?_eq_some_iff.1 b3).1
        obtain ⟨_, b4, _⟩ := HIn.out.st.buf
        have b4' := (Array.getElem?_eq_some_iff.1 b4).1
        rcases hg8 with e | e
        · have := HIn.out.far g e
          omega
        · omega
      have i0 : w2.cell? ⟨ib, 0, none⟩ = some (.pointer (some ⟨bb, 0, none⟩)) := by simp [World.cell?, hib]
      have i1 : w2.cell? ⟨ib, 1, none⟩ = some rvi := by simp [World.cell?, hib]
      have f1 : w2.frozen? ⟨ib, 1, none⟩ = false := by simp [World.frozen?, hib]
      have HG := keep (show B ≤ g ∧ w2.heap[g]? = some (.cells cur.toArray 5 (0, 0)) ∧ cur.length = cap ∧ cap ≤ maxLen ∧ li.length + s ≤ cap ∧ cur.take li.length = Lib.byteCells li ∧ Fr (fun _ => False) wr w2 from ⟨hg1, hg2, hg3, hg4, hg5, hg6, hg7⟩)
      have HGi := keep hgi
      have HIb := keep hib
      have hcap : li.length + s ≤ cap := hg5
      have hcap2 : ¬ (cap = li.length) := by omega
      clear hg1 hg2 hg3 hg4 hg5 hg6 hg7 hg8 hib hgi
      obtain ⟨en, hen⟩ : ∃ en : Nat, (li.length : Int) + (s : Int) = (en : Int) := ⟨li.length + s, by omega⟩
      have hen1 : li.length ≤ en := by omega
      have hen2 : en - li.length = s := by omega
      have hen3 : en ≤ cap := by omega
      have hen4 : (en : Int) ≤ (cap : Int) := by omega
      go_upto_region 5 with fail
      have HIb3 := keep (show (w2.setCell ⟨ib, 1, none⟩ (.slice (some ⟨g, 0, none⟩) li.length cap)).heap[ib]? = some (.cells #[.pointer (some ⟨bb, 0, none⟩), .slice (some ⟨g, 0, none⟩) li.length cap] 45 (0, 0)) by simp [World.setCell, Array.getElem?_modify, HIb.out])
      have HF3 := keep (show Fr (fun i => i = ib) wr (w2.setCell ⟨ib, 1, none⟩ (.slice (some ⟨g, 0, none⟩) li.length cap)) from (HG.out.2.2.2.2.2.2.mono (T := fun i => i = ib) (fun i _ e => e.elim)).setCell (p := ⟨ib, 1, none⟩) (fun _ => rfl) _)
      have HGr3 := keep ((Below.heap_setCell w2 ⟨ib, 1, none⟩ (.slice (some ⟨g, 0, none⟩) li.length cap) g HGi.out.1).trans HG.out.2.1)
      generalize w2.setCell ⟨ib, 1, none⟩ (.slice (some ⟨g, 0, none⟩) li.length cap) = w3 at HIb3 HF3 HGr3 ⊢
      have HSt3 := keep (HIn.out.st.far HF3.out HIn.out.n1 HIn.out.n2 HIn.out.n3 HIn.out.lo)
      have HT3 := keep (show Tgt B w3 rb bb fb g li.length s cur from ⟨HGr3.out, by have := HG.out.2.2.1; omega, HGi.out.2.1, HGi.out.2.2.1, HGi.out.2.2.2, HG.out.1, hs1, by omega⟩)
      have HGe3 := keep (HIn.out.ge.kept (w' := w3) (fun i hi => HF3.out.block i (by omega) (by have := HIn.out.lo; omega)))
      have HFull := keep (fun q => full_any (pc := cap - li.length) (w3.drewN q) (by omega) (show St B (w3.drewN q) rb bb fb dv ea dl ch ci ki ri .nilIface from ⟨HSt3.out.rd, HSt3.out.br, HSt3.out.buf, HSt3.out.fit, HSt3.out.le, HSt3.out.ne1, HSt3.out.ne2, HSt3.out.ne3, HSt3.out.lo, HSt3.out.data, HSt3.out.small, HSt3.out.chs⟩) (show Tgt B (w3.drewN q) rb bb fb g li.length s cur from ⟨HT3.out.row, HT3.out.fit, HT3.out.n1, HT3.out.n2, HT3.out.n3, HT3.out.lo, HT3.out.pos, HT3.out.big⟩) (show GE B (w3.drewN q) ea eo un from ⟨HGe3.out.c0, HGe3.out.c1, HGe3.out.b1, HGe3.out.a, HGe3.out.o, HGe3.out.la, HGe3.out.lo⟩))
      have j0 : w3.cell? ⟨ib, 0, none⟩ = some (.pointer (some ⟨bb, 0, none⟩)) := by simp [World.cell?, HIb3.out]
      have j1 : w3.cell? ⟨ib, 1, none⟩ = some (.slice (some ⟨g, 0, none⟩) li.length cap) := by simp [World.cell?, HIb3.out]
      clear i0 i1 f1
      go_cut [7, 8] (fun s7 s8 wc => ∃ (nn q : Nat) (er : Value), s7 = .int .i64 nn ∧ s8 = er ∧ AtPost B (w3.drewN q) rb bb fb g li.length s cur dv ea eo un dl ch ci nn er wc)
      case first =>
        go_region_with (go_at_call 19; refine (HFull.out _).mono ?_; rintro e w4 ⟨nn, er, rfl, hp⟩; have HP := keep hp; clear hp)
        all_goals (go_wp2_with fail)
        all_goals go_meet
        all_goals exact ⟨nn, _, er, rfl, rfl, HP.out⟩
      case rest =>
        obtain ⟨nn, q, er, rfl, rfl, hF, ⟨k2, r2, h4⟩, hle, hrow, hcase⟩ := hcut
        have HIb4 := keep ((hF.block ib (show ib < (w3.drewN q).heap.size from (Array.getElem?_eq_some_iff.1 HIb3.out).1) (by show ¬ (ib = rb ∨ ib = bb ∨ ib = fb ∨ ib = g); have h1 := HIn.out.n1; have h2 := HIn.out.n2; have h3 := HIn.out.n3; have h4 := HGi.out.1; omega)).trans (show (w3.drewN q).heap[ib]? = _ from HIb3.out))
        have HF4 := keep (show Fr (fun i => B ≤ i) w wc from ((HFr.out.next HF3.out (fun i _ e => by have := HIn.out.lo; omega)).drewN q).next hF (fun i _ e => by have h1 := HIn.out.st.lo; have h2 := HG.out.1; have e' : i = rb ∨ i = bb ∨ i = fb ∨ i = g := e; omega))
        have hBw : B ≤ w.heap.size := by have h1 := HI.out.lo; have h2 := (Array.getElem?_eq_some_iff.1 HI.out.blk).1; omega
        have HGe4 := keep (HI.out.ge.kept (w' := wc) (fun i hi => HF4.out.block i (by omega) (by omega)))
        have HUb4 := keep (show ∃ ca ta, wc.heap[un.block]? = some (.cells ca ta (0, 0)) by rw [HF4.out.block un.block (by omega) (by omega)]; exact HUb.out)
        have H4 := keep h4
        have HOwn := keep (own_splice hrow HG.out.1 HG.out.2.2.1 HG.out.2.2.2.1 (show li.length + nn ≤ cap by omega) HG.out.2.2.2.2.2.1 hle)
        clear h4 hrow hF j0 j1 HFull
        have j0 : wc.cell? ⟨ib, 0, none⟩ = some (.pointer (some ⟨bb, 0, none⟩)) := by simp [World.cell?, HIb4.out]
        have j1 : wc.cell? ⟨ib, 1, none⟩ = some (.slice (some ⟨g, 0, none⟩) li.length cap) := by simp [World.cell?, HIb4.out]
        have jf : wc.frozen? ⟨ib, 1, none⟩ = false := by simp [World.frozen?, HIb4.out]
        obtain ⟨gk', rfl⟩ : ∃ gk', gk = gk' + 1 := ⟨gk - 1, by omega⟩
        rcases hcase with ⟨hns, rfl⟩ | ⟨h1, h2, h3⟩
        · subst nn
          have hle' : (en : Int) ≤ cap := by omega
          go_wp2_with fail
          go_roundg gk'
          case measure => omega
          case rel =>
            have hF5 : Fr (fun i => i = ib) wc (wc.setCell ⟨ib, 1, none⟩ (.slice (some ⟨g, 0, none⟩) en cap)) := (Fr.refl (fun i => i = ib) wc).setCell (p := ⟨ib, 1, none⟩) (fun _ => rfl) _
            have hen5 : en = li.length + s := by omega
            refine ⟨ni - s, ci + s, k2, r2, .slice (some ⟨g, 0, none⟩) en cap, li ++ seg dl ci s, by go_num, by omega, by omega, by omega, ⟨?_, ?_, ?_, ?_, HIn.out.n1, HIn.out.n2, HIn.out.n3, HIn.out.lo, ?_⟩, by omega, ?_, ?_, ?_⟩
            · exact H4.out.far hF5 HIn.out.n1 HIn.out.n2 HIn.out.n3 HIn.out.lo
            · simp [World.setCell, Array.getElem?_modify, HIb4.out]
            · rw [hen5]
              exact own_kept HOwn.out.1 (by rw [← hen5]; exact hF5) (fun k' hk' => by have e : g = k' := Option.some.inj hk'; have := HGi.out.1; show ¬ (k' = ib); omega)
            · exact HGe4.out.kept (fun i hi => hF5.block i (by have := HF4.out.size; omega) (by have := HIn.out.lo; show ¬ (i = ib); omega))
            · intro g' hg'
              have e : g = g' := Option.some.inj hg'
              subst e
              have := HGi.out
              omega
            · rw [HLi.out, List.append_assoc, show ci + s - c = (ci - c) + s by omega, seg_add, show c + (ci - c) = ci by omega]
            · exact HF4.out.next hF5 (fun i _ e => by have := HIn.out.lo; have e' : i = ib := e; omega)
            · rw [← HSp.out, List.length_append, seg_len dl ci s hle, steps_next hpos hs hle]
        · have HRet := keep (show RawPost B w ib rb bb fb dv ea eo un dl ch c l P (.returned (outErr ea eo un)) wc from by
            have hp : P = (ci, false) := by rw [← HSp.out]; exact steps_fail hpos hs (by omega)
            subst hp
            refine ⟨_, HIb4.out, ?_, HF4.out, Or.inr ⟨rfl, rfl⟩⟩
            rw [← HLi.out]
            exact HOwn.out.2)
          rcases h3 with rfl | ⟨rfl, rfl⟩
          · go_wp2_with fail
            refine (unexp_any wc HGe4.out hne HUb4.out (Or.inl rfl)).mono ?_
            rintro e w5 ⟨rfl, rfl⟩
            go_wp2_with fail
            go_ret
            exact HRet.out
          · go_wp2_with fail
            refine (unexp_any wc HGe4.out hne HUb4.out (Or.inr ⟨rfl, rfl⟩)).mono ?_
            rintro e w5 ⟨rfl, rfl⟩
            go_wp2_with fail
            go_ret
            exact HRet.out
    · have hp : P = (ci, true) := by rw [← HSp.out]; exact steps_done _ _ _ _ _ (by omega)
      have HRet := keep (show RawPost B w ib rb bb fb dv ea eo un dl ch c l P (.returned .nilIface) wr from by
        subst hp
        refine ⟨_, HIn.out.blk, ?_, HFr.out, Or.inl ⟨rfl, rfl, ki, ri, HIn.out.st⟩⟩
        rw [← HLi.out]
        exact HIn.out.own)
      clear hin hfr hp
      go_wp2_with fail
      go_ret
      exact HRet.out
end Go.Proofs.YbulkgdyuDoor.C
