/-
  9054B: the law's walks, part 2 of 4 (one theorem a way of the parser's operand).
-/
import Derived.Test.YbulkgemgFmtWalkF
namespace Go.Proofs.YbulkgemgFmt
open Go.RowKit Go.Extern.Stop Go.Stop Go.Extern
set_option linter.unusedSimpArgs false
set_option linter.unusedVariables false
attribute [local go_sem] nil_ne nil_eq br_eq nd_ne nd_eq nd_neq er_ne er_eq assert62

set_option maxHeartbeats 4000000 in
set_option maxRecDepth 100000 in
theorem law_eof (F : Interp) (kd sy : Int) (tx : ByteArray) (li co d md : Int) (a : Option Addr) (n cap : Nat) (I : Nat → Inp) (w : World) (hF : F.answers w.tape) (hn : n ≤ 1048576) (harg : ArgAny w a n I) (kd0 : 0 ≤ kd) (kd1 : kd ≤ 255) (sy0 : 0 ≤ sy) (sy1 : sy ≤ 255) (hwd : (Lit.int .i64 d).wf = true)
    (N : Nat) (J : Nat → Inp) (hNJ : (n = 0 ∧ N = 1 ∧ J = fun _ => ⟨0, false, 0⟩) ∨ (0 < n ∧ N = n ∧ J = I)) (si : Nat) (hsi : sy % (N : Int) = (si : Int)) (hsN : si < N) (hk0 : kd % 6 = 0) :
    Calls Ybaf.prog 3 #[.int .u8 kd, .int .u8 sy, .string tx, .int .i32 li, .int .i32 co, .int .i64 d, .int .i64 md, .slice a n cap] w fun e w' => e = .returned (.bool true) ∧ w.grownBy w' none := by
  obtain ⟨i0, hi, hz0, hz1, hz2⟩ := info_parts info29
  have hn' : ¬ (1048576 : Int) < (n : Int) := by omega
  have HA := keep harg
  have HN := keep hNJ
  clear harg hNJ
  go_enter Ybaf.func3, Ybaf.ntmps3
  go_wp2_with (at_make; refine wpList_make_own _ rfl _ _ 23 rfl w.heap.size 29 i0 _ 8 Ybaf.underlying23 hi hz0 hz1 _ _ _ (n + 1) rfl rfl (by omega) ?b2 ?b3 (Nat.le_refl _) ?_)
  case b2 => omega
  case b3 => unfold maxLen; omega
  intro w0 hown0 hgrow0
  have HB0 := keep (made_built (I := I) hown0)
  have hw0 := hown0.lt w.heap.size rfl
  clear hown0
  go_wp2
  go_loopw [17, 18] (fun rs i wr => ∃ k : Nat, k ≤ n ∧ i = .int .i64 k ∧ rs = .slice (some ⟨w.heap.size, 0, none⟩) k (n + 1) ∧ Built wr w.heap.size (n + 1) k I ∧ w.heap.size < wr.heap.size ∧ w.grownBy wr none) (fun _ i _ => n - (intOf i).toNat)
  case atStart => exact ⟨0, Nat.zero_le _, rfl, rfl, HB0.out, hw0.2, hgrow0⟩
  case round =>
    obtain ⟨k, hk, rfl, rfl, hbu, hsz, hgr⟩ := hrel
    have HB := keep hbu
    clear hbu HB0 hgrow0 hw0
    by_cases hlt : k < n
    · rcases HA.out with h | ⟨b, off, rfl, hb, hrow⟩
      · omega
      obtain ⟨a0, a1, a2⟩ := hrow k hlt
      have hbl : b < wr.heap.size := by omega
      have g := hgr.block b hb (by simp)
      have c0 : wr.cell? ⟨b, off + k * 3, none⟩ = _ := (World.cell?_of_block (w := w) g).trans a0
      have c1 : wr.cell? ⟨b, off + k * 3 + 1, none⟩ = _ := (World.cell?_of_block (w := w) g).trans a1
      have c2 : wr.cell? ⟨b, off + k * 3 + 2, none⟩ = _ := (World.cell?_of_block (w := w) g).trans a2
      have ne := World.new_ne wr _ c0
      have hbB : b ≠ w.heap.size := by omega
      have i1 : (0 : Int) ≤ (k : Int) := by omega
      have i2 : (k : Int) < (n : Int) := by omega
      clear a0 a1 a2 g hrow
      go_wp2
      go_region_held3 (fun w' => w'.cell? ⟨b, off + k * 3, none⟩ = some (.int .i64 (I k).bp) ∧ w'.cell? ⟨b, off + k * 3 + 1, none⟩ = some (.bool (I k).op) ∧ w'.cell? ⟨b, off + k * 3 + 2, none⟩ = some (.int .i64 (I k).cl)) (first | exact ⟨(out_cell hbB hbl).trans c0, (out_cell hbB hbl).trans c1, (out_cell hbB hbl).trans c2⟩ | go_keep)
        (refine step_append_room rfl (.tmp 46) (.tmp 63) 23 rfl 29 i0 8 Ybaf.underlying23 hi hz1 w.heap.size 0 k (n + 1) rfl ⟨wr.heap.size, 0, none⟩ 1 1 (roleCells (I k)) rfl rfl (by exact new_role wr (I k)) (by exact role_one (I k)) (by omega) (by exact role_there HB.out hsz (by omega)) ?_)
      go_wp2
      go_roundw
      case rel => exact ⟨k + 1, by omega, by go_num, rfl, next_built HB.out hsz (by omega), next_size hsz, grown_setCells (Nat.le_refl _) _ _ _ (grown_drew (grown_alloc hgr _))⟩
      case measure => simp [intOf]; omega
    · obtain rfl : k = n := by omega
      clear HA
      go_upto_if 67 with fail
      go_cut [17] (fun rs wc => rs = .slice (some ⟨w.heap.size, 0, none⟩) N (k + 1) ∧ 0 < N ∧ N ≤ k + 1 ∧ Built wc w.heap.size (k + 1) N J ∧ w.heap.size < wc.heap.size ∧ w.grownBy wc none)
      case first =>
        by_cases h0 : k = 0
        · subst h0
          have hz : ∀ j, j < 8 → ∃ u, wr.cell? ⟨w.heap.size, j, none⟩ = some u := fun j hj => Option.isSome_iff_exists.1 (HB.out.there (j := j) (by omega)).1
          have hf : ∀ j, j < 8 → wr.frozen? ⟨w.heap.size, j, none⟩ = false := fun j hj => (HB.out.there (j := j) (by omega)).2
          obtain ⟨u0, z0⟩ := hz 0 (by omega)
          obtain ⟨u1, z1⟩ := hz 1 (by omega)
          obtain ⟨u2, z2⟩ := hz 2 (by omega)
          obtain ⟨u3, z3⟩ := hz 3 (by omega)
          obtain ⟨u4, z4⟩ := hz 4 (by omega)
          obtain ⟨u5, z5⟩ := hz 5 (by omega)
          obtain ⟨u6, z6⟩ := hz 6 (by omega)
          obtain ⟨u7, z7⟩ := hz 7 (by omega)
          have f0 := hf 0 (by omega)
          have f1 := hf 1 (by omega)
          have f2 := hf 2 (by omega)
          have f3 := hf 3 (by omega)
          have f4 := hf 4 (by omega)
          have f5 := hf 5 (by omega)
          have f6 := hf 6 (by omega)
          have f7 := hf 7 (by omega)
          clear hz hf
          go_wp2_with fail
          go_meet
          rcases HN.out with ⟨_, rfl, rfl⟩ | ⟨hx, _⟩
          · exact ⟨rfl, by omega, by omega, empty_built HB.out hsz, by simp [World.setCell]; omega, empty_grown hgr⟩
          · omega
        · go_wp2_with fail
          go_meet
          rcases HN.out with ⟨hx, _⟩ | ⟨_, rfl, rfl⟩
          · omega
          · exact ⟨rfl, by omega, by omega, HB.out, hsz, hgr⟩
      case rest =>
        obtain ⟨rfl, hN, hN1, hbu, hsz1, hgr1⟩ := hcut
        clear HB hgr hsz
        have HB := keep hbu
        clear hbu
        have hN0 : ((N : Int) == 0) = false := beq_eq_false_iff_ne.2 (by omega)
        have HR := keep (role_cells HB.out hsN)
        have hF1 : F.answers wc.tape := by rw [hgr1.tape]; exact hF
        have HG := keep hgr1
        clear HB hgr1 HN
        go_wp2_with fail
        refine (operand_eof (wc.heap.size + 1 + 1) _ si tx li co d _ 0 _ (by exact Par.new3 _ _ _ _ _ _ _ _ _ _)).mono ?_
        rintro e w2 ⟨⟨v, rfl, he⟩, gr0⟩
        have gr2 := grown_none gr0 (some (wc.heap.size + 1 + 1))
        have hp2 := Par.grown (Par.new3 _ _ _ _ _ _ _ _ _ _) gr0 (by simp)
        obtain ⟨b, msg, rfl, _, l3, b0, b1, b2, rfl⟩ := he
        obtain ⟨hT, hG3, hOld, hz2⟩ := after3 gr2
        have t0 : w2.cell? ⟨wc.heap.size, 0, none⟩ = some (.int .u8 (0)) := by simp [World.cell?, hT]
        have t1 : w2.cell? ⟨wc.heap.size, 1, none⟩ = some (.int .i64 si) := by simp [World.cell?, hT]
        have t2 : w2.cell? ⟨wc.heap.size, 2, none⟩ = some (.string tx) := by simp [World.cell?, hT]
        have t3 : w2.cell? ⟨wc.heap.size, 3, none⟩ = some (.int .i32 li) := by simp [World.cell?, hT]
        have t4 : w2.cell? ⟨wc.heap.size, 4, none⟩ = some (.int .i32 co) := by simp [World.cell?, hT]
        have p6 : w2.cell? ⟨wc.heap.size + 1 + 1, 6, none⟩ = some (.int .u8 (0)) := by rw [Par.cell hp2]; rfl
        have p7 : w2.cell? ⟨wc.heap.size + 1 + 1, 7, none⟩ = some (.int .i64 (si)) := by rw [Par.cell hp2]; rfl
        have p8 : w2.cell? ⟨wc.heap.size + 1 + 1, 8, none⟩ = some (.string tx) := by rw [Par.cell hp2]; rfl
        have p9 : w2.cell? ⟨wc.heap.size + 1 + 1, 9, none⟩ = some (.int .i32 (li)) := by rw [Par.cell hp2]; rfl
        have p10 : w2.cell? ⟨wc.heap.size + 1 + 1, 10, none⟩ = some (.int .i32 (co)) := by rw [Par.cell hp2]; rfl
        have p11 : w2.cell? ⟨wc.heap.size + 1 + 1, 11, none⟩ = some (.int .i64 d) := by rw [Par.cell hp2]; rfl
        have p16 : w2.cell? ⟨wc.heap.size + 1 + 1, 16, none⟩ = some (.slice none 0 0) := by rw [Par.cell hp2]; rfl
        have l1 : wc.heap.size < w2.heap.size := by omega
        have l2 : wc.heap.size + 1 + 1 < w2.heap.size := by omega
        have GD := keep (done_grown HG.out gr2)
        clear hT hG3 hOld hp2 gr2 HR
        go_wp2
        go_quiet (fail)
        go_wp2
        go_ret
        refine ⟨rfl, ?_⟩
        have HB := GD.out
        repeat (with_reducible first | exact HB | refine grown_setCell ?_ (by exact Or.inl (by first | (simp; done) | (simp; omega))) _ | refine grown_alloc ?_ _ | refine grown_drewN ?_ _ | refine grown_drew ?_)

set_option maxHeartbeats 4000000 in
set_option maxRecDepth 100000 in
theorem law_none (F : Interp) (kd sy : Int) (tx : ByteArray) (li co d md : Int) (a : Option Addr) (n cap : Nat) (I : Nat → Inp) (w : World) (hF : F.answers w.tape) (hn : n ≤ 1048576) (harg : ArgAny w a n I) (kd0 : 0 ≤ kd) (kd1 : kd ≤ 255) (sy0 : 0 ≤ sy) (sy1 : sy ≤ 255) (hwd : (Lit.int .i64 d).wf = true)
    (N : Nat) (J : Nat → Inp) (hNJ : (n = 0 ∧ N = 1 ∧ J = fun _ => ⟨0, false, 0⟩) ∨ (0 < n ∧ N = n ∧ J = I)) (si : Nat) (hsi : sy % (N : Int) = (si : Int)) (hsN : si < N) (k0 : (kd % 6 == 0) = false) (k1 : (kd % 6 == 1) = false) (k2 : (kd % 6 == 2) = false) (hbp : ((J si).bp == 0) = true) (hop : (J si).op = false)  :
    Calls Ybaf.prog 3 #[.int .u8 kd, .int .u8 sy, .string tx, .int .i32 li, .int .i32 co, .int .i64 d, .int .i64 md, .slice a n cap] w fun e w' => e = .returned (.bool true) ∧ w.grownBy w' none := by
  obtain ⟨i0, hi, hz0, hz1, hz2⟩ := info_parts info29
  have hn' : ¬ (1048576 : Int) < (n : Int) := by omega
  have HA := keep harg
  have HN := keep hNJ
  clear harg hNJ
  go_enter Ybaf.func3, Ybaf.ntmps3
  go_wp2_with (at_make; refine wpList_make_own _ rfl _ _ 23 rfl w.heap.size 29 i0 _ 8 Ybaf.underlying23 hi hz0 hz1 _ _ _ (n + 1) rfl rfl (by omega) ?b2 ?b3 (Nat.le_refl _) ?_)
  case b2 => omega
  case b3 => unfold maxLen; omega
  intro w0 hown0 hgrow0
  have HB0 := keep (made_built (I := I) hown0)
  have hw0 := hown0.lt w.heap.size rfl
  clear hown0
  go_wp2
  go_loopw [17, 18] (fun rs i wr => ∃ k : Nat, k ≤ n ∧ i = .int .i64 k ∧ rs = .slice (some ⟨w.heap.size, 0, none⟩) k (n + 1) ∧ Built wr w.heap.size (n + 1) k I ∧ w.heap.size < wr.heap.size ∧ w.grownBy wr none) (fun _ i _ => n - (intOf i).toNat)
  case atStart => exact ⟨0, Nat.zero_le _, rfl, rfl, HB0.out, hw0.2, hgrow0⟩
  case round =>
    obtain ⟨k, hk, rfl, rfl, hbu, hsz, hgr⟩ := hrel
    have HB := keep hbu
    clear hbu HB0 hgrow0 hw0
    by_cases hlt : k < n
    · rcases HA.out with h | ⟨b, off, rfl, hb, hrow⟩
      · omega
      obtain ⟨a0, a1, a2⟩ := hrow k hlt
      have hbl : b < wr.heap.size := by omega
      have g := hgr.block b hb (by simp)
      have c0 : wr.cell? ⟨b, off + k * 3, none⟩ = _ := (World.cell?_of_block (w := w) g).trans a0
      have c1 : wr.cell? ⟨b, off + k * 3 + 1, none⟩ = _ := (World.cell?_of_block (w := w) g).trans a1
      have c2 : wr.cell? ⟨b, off + k * 3 + 2, none⟩ = _ := (World.cell?_of_block (w := w) g).trans a2
      have ne := World.new_ne wr _ c0
      have hbB : b ≠ w.heap.size := by omega
      have i1 : (0 : Int) ≤ (k : Int) := by omega
      have i2 : (k : Int) < (n : Int) := by omega
      clear a0 a1 a2 g hrow
      go_wp2
      go_region_held3 (fun w' => w'.cell? ⟨b, off + k * 3, none⟩ = some (.int .i64 (I k).bp) ∧ w'.cell? ⟨b, off + k * 3 + 1, none⟩ = some (.bool (I k).op) ∧ w'.cell? ⟨b, off + k * 3 + 2, none⟩ = some (.int .i64 (I k).cl)) (first | exact ⟨(out_cell hbB hbl).trans c0, (out_cell hbB hbl).trans c1, (out_cell hbB hbl).trans c2⟩ | go_keep)
        (refine step_append_room rfl (.tmp 46) (.tmp 63) 23 rfl 29 i0 8 Ybaf.underlying23 hi hz1 w.heap.size 0 k (n + 1) rfl ⟨wr.heap.size, 0, none⟩ 1 1 (roleCells (I k)) rfl rfl (by exact new_role wr (I k)) (by exact role_one (I k)) (by omega) (by exact role_there HB.out hsz (by omega)) ?_)
      go_wp2
      go_roundw
      case rel => exact ⟨k + 1, by omega, by go_num, rfl, next_built HB.out hsz (by omega), next_size hsz, grown_setCells (Nat.le_refl _) _ _ _ (grown_drew (grown_alloc hgr _))⟩
      case measure => simp [intOf]; omega
    · obtain rfl : k = n := by omega
      clear HA
      go_upto_if 67 with fail
      go_cut [17] (fun rs wc => rs = .slice (some ⟨w.heap.size, 0, none⟩) N (k + 1) ∧ 0 < N ∧ N ≤ k + 1 ∧ Built wc w.heap.size (k + 1) N J ∧ w.heap.size < wc.heap.size ∧ w.grownBy wc none)
      case first =>
        by_cases h0 : k = 0
        · subst h0
          have hz : ∀ j, j < 8 → ∃ u, wr.cell? ⟨w.heap.size, j, none⟩ = some u := fun j hj => Option.isSome_iff_exists.1 (HB.out.there (j := j) (by omega)).1
          have hf : ∀ j, j < 8 → wr.frozen? ⟨w.heap.size, j, none⟩ = false := fun j hj => (HB.out.there (j := j) (by omega)).2
          obtain ⟨u0, z0⟩ := hz 0 (by omega)
          obtain ⟨u1, z1⟩ := hz 1 (by omega)
          obtain ⟨u2, z2⟩ := hz 2 (by omega)
          obtain ⟨u3, z3⟩ := hz 3 (by omega)
          obtain ⟨u4, z4⟩ := hz 4 (by omega)
          obtain ⟨u5, z5⟩ := hz 5 (by omega)
          obtain ⟨u6, z6⟩ := hz 6 (by omega)
          obtain ⟨u7, z7⟩ := hz 7 (by omega)
          have f0 := hf 0 (by omega)
          have f1 := hf 1 (by omega)
          have f2 := hf 2 (by omega)
          have f3 := hf 3 (by omega)
          have f4 := hf 4 (by omega)
          have f5 := hf 5 (by omega)
          have f6 := hf 6 (by omega)
          have f7 := hf 7 (by omega)
          clear hz hf
          go_wp2_with fail
          go_meet
          rcases HN.out with ⟨_, rfl, rfl⟩ | ⟨hx, _⟩
          · exact ⟨rfl, by omega, by omega, empty_built HB.out hsz, by simp [World.setCell]; omega, empty_grown hgr⟩
          · omega
        · go_wp2_with fail
          go_meet
          rcases HN.out with ⟨hx, _⟩ | ⟨_, rfl, rfl⟩
          · omega
          · exact ⟨rfl, by omega, by omega, HB.out, hsz, hgr⟩
      case rest =>
        obtain ⟨rfl, hN, hN1, hbu, hsz1, hgr1⟩ := hcut
        clear HB hgr hsz
        have HB := keep hbu
        clear hbu
        have hN0 : ((N : Int) == 0) = false := beq_eq_false_iff_ne.2 (by omega)
        have HR := keep (role_cells HB.out hsN)
        have hF1 : F.answers wc.tape := by rw [hgr1.tape]; exact hF
        have HG := keep hgr1
        clear HB hgr1 HN
        go_wp2_with fail
        refine (operand_none F (wc.heap.size + 1 + 1) (wc.heap.size + 1) w.heap.size N (k + 1) si (kd % 6) tx li co d md (J si).bp (J si).op _ 0 _ (by exact hF1) k0 k1 k2 (by omega) hsN hwd (by exact Par.new3 _ _ _ _ _ _ _ _ _ _) (by simp [go_sem]) (by simp [go_sem]) (by exact (old3 hsz1).trans (HR.out 0 (by omega))) (by exact (old3 hsz1).trans (HR.out 1 (by omega))) (by omega) (by omega) hbp hop).mono ?_
        rintro e w2 ⟨⟨v, rfl, he⟩, gr0⟩
        have gr2 := grown_none gr0 (some (wc.heap.size + 1 + 1))
        have hp2 := Par.grown (Par.new3 _ _ _ _ _ _ _ _ _ _) gr0 (by simp)
        obtain ⟨b, msg, rfl, _, l3, b0, b1, b2, _⟩ := he
        obtain ⟨hT, hG3, hOld, hz2⟩ := after3 gr2
        have t0 : w2.cell? ⟨wc.heap.size, 0, none⟩ = some (.int .u8 (kd % 6)) := by simp [World.cell?, hT]
        have t1 : w2.cell? ⟨wc.heap.size, 1, none⟩ = some (.int .i64 si) := by simp [World.cell?, hT]
        have t2 : w2.cell? ⟨wc.heap.size, 2, none⟩ = some (.string tx) := by simp [World.cell?, hT]
        have t3 : w2.cell? ⟨wc.heap.size, 3, none⟩ = some (.int .i32 li) := by simp [World.cell?, hT]
        have t4 : w2.cell? ⟨wc.heap.size, 4, none⟩ = some (.int .i32 co) := by simp [World.cell?, hT]
        have p6 : w2.cell? ⟨wc.heap.size + 1 + 1, 6, none⟩ = some (.int .u8 (kd % 6)) := by rw [Par.cell hp2]; rfl
        have p7 : w2.cell? ⟨wc.heap.size + 1 + 1, 7, none⟩ = some (.int .i64 (si)) := by rw [Par.cell hp2]; rfl
        have p8 : w2.cell? ⟨wc.heap.size + 1 + 1, 8, none⟩ = some (.string tx) := by rw [Par.cell hp2]; rfl
        have p9 : w2.cell? ⟨wc.heap.size + 1 + 1, 9, none⟩ = some (.int .i32 (li)) := by rw [Par.cell hp2]; rfl
        have p10 : w2.cell? ⟨wc.heap.size + 1 + 1, 10, none⟩ = some (.int .i32 (co)) := by rw [Par.cell hp2]; rfl
        have p11 : w2.cell? ⟨wc.heap.size + 1 + 1, 11, none⟩ = some (.int .i64 d) := by rw [Par.cell hp2]; rfl
        have p16 : w2.cell? ⟨wc.heap.size + 1 + 1, 16, none⟩ = some (.slice none 0 0) := by rw [Par.cell hp2]; rfl
        have l1 : wc.heap.size < w2.heap.size := by omega
        have l2 : wc.heap.size + 1 + 1 < w2.heap.size := by omega
        have l4 : w.heap.size < w2.heap.size := by omega
        have l5 : wc.heap.size < w2.heap.size + 1 := by omega
        have l6 : wc.heap.size + 1 + 1 < w2.heap.size + 1 := by omega
        have l7 : b < w2.heap.size + 1 := by omega
        have l8 : w.heap.size < w2.heap.size + 1 := by omega
        have r0 : w2.cell? ⟨w.heap.size, si * 8, none⟩ = some (.int .i64 (J si).bp) := by rw [World.cell?_of_block (w := wc) (hOld w.heap.size hsz1)]; exact HR.out 0 (by omega)
        have r1 : w2.cell? ⟨w.heap.size, si * 8 + 1, none⟩ = some (.bool (J si).op) := by rw [World.cell?_of_block (w := wc) (hOld w.heap.size hsz1)]; exact HR.out 1 (by omega)
        have r2 : w2.cell? ⟨w.heap.size, si * 8 + 2, none⟩ = some (.int .i64 (J si).cl) := by rw [World.cell?_of_block (w := wc) (hOld w.heap.size hsz1)]; exact HR.out 2 (by omega)
        have r3 : w2.cell? ⟨w.heap.size, si * 8 + 3, none⟩ = some (.int .u8 0) := by rw [World.cell?_of_block (w := wc) (hOld w.heap.size hsz1)]; exact HR.out 3 (by omega)
        have r4 : w2.cell? ⟨w.heap.size, si * 8 + 4, none⟩ = some (.int .i64 0) := by rw [World.cell?_of_block (w := wc) (hOld w.heap.size hsz1)]; exact HR.out 4 (by omega)
        have r5 : w2.cell? ⟨w.heap.size, si * 8 + 5, none⟩ = some (.int .i64 0) := by rw [World.cell?_of_block (w := wc) (hOld w.heap.size hsz1)]; exact HR.out 5 (by omega)
        have r6 : w2.cell? ⟨w.heap.size, si * 8 + 6, none⟩ = some (.pointer none) := by rw [World.cell?_of_block (w := wc) (hOld w.heap.size hsz1)]; exact HR.out 6 (by omega)
        have r7 : w2.cell? ⟨w.heap.size, si * 8 + 7, none⟩ = some (.bool false) := by rw [World.cell?_of_block (w := wc) (hOld w.heap.size hsz1)]; exact HR.out 7 (by omega)
        have GD := keep (done_grown HG.out gr2)
        clear hT hG3 hOld hp2 gr2 HR
        have hb0 : ((J si).bp != 0) = false := by rw [bne_eq_false_iff_eq]; exact beq_iff_eq.1 hbp
        go_wp2
        go_quiet (fail)
        go_wp2
        go_ret
        refine ⟨rfl, ?_⟩
        have HB := GD.out
        repeat (with_reducible first | exact HB | refine grown_setCell ?_ (by exact Or.inl (by first | (simp; done) | (simp; omega))) _ | refine grown_alloc ?_ _ | refine grown_drewN ?_ _ | refine grown_drew ?_)

end Go.Proofs.YbulkgemgFmt
