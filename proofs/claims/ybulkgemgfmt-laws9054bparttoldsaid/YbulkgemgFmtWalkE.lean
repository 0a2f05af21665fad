/-
  9054B, fifth text: operand where the token is an operator, or no token of its own.
-/
import Derived.Test.YbulkgemgFmtWalkD
namespace Go.Proofs.YbulkgemgFmt
open Go.RowKit Go.Extern.Stop Go.Stop Go.Extern
set_option linter.unusedSimpArgs false
set_option linter.unusedVariables false

set_option maxHeartbeats 2000000 in
set_option maxRecDepth 100000 in
theorem operand_none (F : Interp) (p gb rb n cap si : Nat) (k : Int) (tx : ByteArray) (li co d md bp : Int) (op : Bool) (NF : Value) (nn : Int) (w : World) (hF : F.answers w.tape) (k0 : (k == 0) = false) (k1 : (k == 1) = false) (k2 : (k == 2) = false) (hn : n ≤ 2000000) (hs : si < n) (hwd : (Lit.int .i64 d).wf = true) (hp : Par w p (.pointer (some ⟨gb, 0, none⟩)) k si tx li co d NF nn) (hg : w.cell? ⟨gb, 2, none⟩ = some (.slice (some ⟨rb, 0, none⟩) n cap)) (hm : w.cell? ⟨gb, 5, none⟩ = some (.int .i64 md)) (hr0 : w.cell? ⟨rb, si * 8, none⟩ = some (.int .i64 bp)) (hr1 : w.cell? ⟨rb, si * 8 + 1, none⟩ = some (.bool op)) (gp : gb ≠ p) (rp : rb ≠ p) (hb : (bp == 0) = true) (ho : op = false) :
    Calls Ybaf.prog 4 #[.pointer (some ⟨p, 0, none⟩)] w fun e w' => (∃ v, e = .returned (.tuple #[.pointer none, v]) ∧ IsErr w' w.heap.size li co v (fun _ => True)) ∧ w.grownBy w' none := by
  subst ho
  have pl := hp.lt
  have gl : gb < w.heap.size := World.block_lt_of_cell? _ _ hg
  have rl : rb < w.heap.size := World.block_lt_of_cell? _ _ hr0
  have c0 : w.cell? ⟨p, 0, none⟩ = some (.pointer (some ⟨gb, 0, none⟩)) := by rw [hp.cell]; rfl
  have c6 : w.cell? ⟨p, 6, none⟩ = some (.int .u8 k) := by rw [hp.cell]; rfl
  have c7 : w.cell? ⟨p, 7, none⟩ = some (.int .i64 si) := by rw [hp.cell]; rfl
  have c8 : w.cell? ⟨p, 8, none⟩ = some (.string tx) := by rw [hp.cell]; rfl
  have c9 : w.cell? ⟨p, 9, none⟩ = some (.int .i32 li) := by rw [hp.cell]; rfl
  have c10 : w.cell? ⟨p, 10, none⟩ = some (.int .i32 co) := by rw [hp.cell]; rfl
  have pl' : p < w.heap.size + 1 := by omega
  have gl' : gb < w.heap.size + 1 := by omega
  have rl' : rb < w.heap.size + 1 := by omega
  have HP := keep hp
  have HM := keep hm
  clear hp hm
  go_enter Ybaf.func4, Ybaf.ntmps4
  go_wp2
  go_quiet (fail)
  go_wp2_with fail
  refine (unexpected_other F p _ k si tx li co d NF nn _ (by exact hF) k0 ((Par.alloc HP.out _).drewN nq)).mono ?_
  rintro e w1 ⟨⟨v, rfl, he⟩, gr⟩
  have HE := keep he
  obtain ⟨b, msg, rfl, _⟩ := he
  go_wp2
  go_ret2
  exact ⟨⟨_, rfl, HE.out.le (by simp)⟩, grown_trans (grown_drewN (World.grownBy_alloc w _ none) nq) gr⟩

set_option maxHeartbeats 2000000 in
set_option maxRecDepth 100000 in
theorem operand_deep_prefix (F : Interp) (p gb rb n cap si : Nat) (k : Int) (tx : ByteArray) (li co d md bp : Int) (op : Bool) (NF : Value) (nn : Int) (w : World) (hF : F.answers w.tape) (k0 : (k == 0) = false) (k1 : (k == 1) = false) (k2 : (k == 2) = false) (hn : n ≤ 2000000) (hs : si < n) (hwd : (Lit.int .i64 d).wf = true) (hp : Par w p (.pointer (some ⟨gb, 0, none⟩)) k si tx li co d NF nn) (hg : w.cell? ⟨gb, 2, none⟩ = some (.slice (some ⟨rb, 0, none⟩) n cap)) (hm : w.cell? ⟨gb, 5, none⟩ = some (.int .i64 md)) (hr0 : w.cell? ⟨rb, si * 8, none⟩ = some (.int .i64 bp)) (hr1 : w.cell? ⟨rb, si * 8 + 1, none⟩ = some (.bool op)) (gp : gb ≠ p) (rp : rb ≠ p) (hb : (bp == 0) = false) (hd : (d == md) = true) :
    Calls Ybaf.prog 4 #[.pointer (some ⟨p, 0, none⟩)] w fun e w' => (∃ v, e = .returned (.tuple #[.pointer none, v]) ∧ IsErr w' w.heap.size li co v (fun _ => True)) ∧ w.grownBy w' none := by
  have pl := hp.lt
  have gl : gb < w.heap.size := World.block_lt_of_cell? _ _ hg
  have rl : rb < w.heap.size := World.block_lt_of_cell? _ _ hr0
  have c0 : w.cell? ⟨p, 0, none⟩ = some (.pointer (some ⟨gb, 0, none⟩)) := by rw [hp.cell]; rfl
  have c6 : w.cell? ⟨p, 6, none⟩ = some (.int .u8 k) := by rw [hp.cell]; rfl
  have c7 : w.cell? ⟨p, 7, none⟩ = some (.int .i64 si) := by rw [hp.cell]; rfl
  have c8 : w.cell? ⟨p, 8, none⟩ = some (.string tx) := by rw [hp.cell]; rfl
  have c9 : w.cell? ⟨p, 9, none⟩ = some (.int .i32 li) := by rw [hp.cell]; rfl
  have c10 : w.cell? ⟨p, 10, none⟩ = some (.int .i32 co) := by rw [hp.cell]; rfl
  have pl' : p < w.heap.size + 1 := by omega
  have gl' : gb < w.heap.size + 1 := by omega
  have rl' : rb < w.heap.size + 1 := by omega
  have HP := keep hp
  have HM := keep hm
  clear hp hm
  go_enter Ybaf.func4, Ybaf.ntmps4
  go_wp2
  go_quiet (fail)
  go_wp2_with fail
  refine (nested_deep F p gb _ k si tx li co d md NF nn _ (by exact hF) hd ((Par.alloc HP.out _).drewN nq) (by have := HM.out; go_simp)).mono ?_
  rintro e w1 ⟨⟨v, rfl, he⟩, gr⟩
  have HE := keep he
  obtain ⟨b, msg, rfl, _⟩ := he
  go_wp2
  go_ret2
  exact ⟨⟨_, rfl, HE.out.le (by simp)⟩, grown_trans (grown_drewN (World.grownBy_alloc w _ none) nq) gr⟩

set_option maxHeartbeats 2000000 in
set_option maxRecDepth 100000 in
theorem operand_deep_group (F : Interp) (p gb rb n cap si : Nat) (k : Int) (tx : ByteArray) (li co d md bp : Int) (op : Bool) (NF : Value) (nn : Int) (w : World) (hF : F.answers w.tape) (k0 : (k == 0) = false) (k1 : (k == 1) = false) (k2 : (k == 2) = false) (hn : n ≤ 2000000) (hs : si < n) (hwd : (Lit.int .i64 d).wf = true) (hp : Par w p (.pointer (some ⟨gb, 0, none⟩)) k si tx li co d NF nn) (hg : w.cell? ⟨gb, 2, none⟩ = some (.slice (some ⟨rb, 0, none⟩) n cap)) (hm : w.cell? ⟨gb, 5, none⟩ = some (.int .i64 md)) (hr0 : w.cell? ⟨rb, si * 8, none⟩ = some (.int .i64 bp)) (hr1 : w.cell? ⟨rb, si * 8 + 1, none⟩ = some (.bool op)) (gp : gb ≠ p) (rp : rb ≠ p) (hb : (bp == 0) = true) (ho : op = true) (hd : (d == md) = true) :
    Calls Ybaf.prog 4 #[.pointer (some ⟨p, 0, none⟩)] w fun e w' => (∃ v, e = .returned (.tuple #[.pointer none, v]) ∧ IsErr w' w.heap.size li co v (fun _ => True)) ∧ w.grownBy w' none := by
  subst ho
  have pl := hp.lt
  have gl : gb < w.heap.size := World.block_lt_of_cell? _ _ hg
  have rl : rb < w.heap.size := World.block_lt_of_cell? _ _ hr0
  have c0 : w.cell? ⟨p, 0, none⟩ = some (.pointer (some ⟨gb, 0, none⟩)) := by rw [hp.cell]; rfl
  have c6 : w.cell? ⟨p, 6, none⟩ = some (.int .u8 k) := by rw [hp.cell]; rfl
  have c7 : w.cell? ⟨p, 7, none⟩ = some (.int .i64 si) := by rw [hp.cell]; rfl
  have c8 : w.cell? ⟨p, 8, none⟩ = some (.string tx) := by rw [hp.cell]; rfl
  have c9 : w.cell? ⟨p, 9, none⟩ = some (.int .i32 li) := by rw [hp.cell]; rfl
  have c10 : w.cell? ⟨p, 10, none⟩ = some (.int .i32 co) := by rw [hp.cell]; rfl
  have pl' : p < w.heap.size + 1 := by omega
  have gl' : gb < w.heap.size + 1 := by omega
  have rl' : rb < w.heap.size + 1 := by omega
  have HP := keep hp
  have HM := keep hm
  clear hp hm
  go_enter Ybaf.func4, Ybaf.ntmps4
  go_wp2
  go_quiet (fail)
  go_wp2_with fail
  refine (nested_deep F p gb _ k si tx li co d md NF nn _ (by exact hF) hd ((Par.alloc HP.out _).drewN nq) (by have := HM.out; go_simp)).mono ?_
  rintro e w1 ⟨⟨v, rfl, he⟩, gr⟩
  have HE := keep he
  obtain ⟨b, msg, rfl, _⟩ := he
  go_wp2
  go_ret2
  exact ⟨⟨_, rfl, HE.out.le (by simp)⟩, grown_trans (grown_drewN (World.grownBy_alloc w _ none) nq) gr⟩

set_option maxHeartbeats 2000000 in
set_option maxRecDepth 100000 in
theorem operand_in_prefix (F : Interp) (p gb rb n cap si : Nat) (k : Int) (tx : ByteArray) (li co d md bp : Int) (op : Bool) (NF : Value) (nn : Int) (w : World) (hF : F.answers w.tape) (k0 : (k == 0) = false) (k1 : (k == 1) = false) (k2 : (k == 2) = false) (hn : n ≤ 2000000) (hs : si < n) (hwd : (Lit.int .i64 d).wf = true) (hp : Par w p (.pointer (some ⟨gb, 0, none⟩)) k si tx li co d NF nn) (hg : w.cell? ⟨gb, 2, none⟩ = some (.slice (some ⟨rb, 0, none⟩) n cap)) (hm : w.cell? ⟨gb, 5, none⟩ = some (.int .i64 md)) (hr0 : w.cell? ⟨rb, si * 8, none⟩ = some (.int .i64 bp)) (hr1 : w.cell? ⟨rb, si * 8 + 1, none⟩ = some (.bool op)) (gp : gb ≠ p) (rp : rb ≠ p) (hb : (bp == 0) = false) (hd : (d == md) = false) :
    Calls Ybaf.prog 4 #[.pointer (some ⟨p, 0, none⟩)] w fun e w' => (∃ v, e = .returned (.tuple #[.pointer none, v]) ∧ IsErr w' w.heap.size 0 1 v eoiMsg) ∧ w.grownBy w' (some p) ∧ Par w' p (.pointer (some ⟨gb, 0, none⟩)) 0 0 ⟨#[]⟩ 0 1 d NF nn := by
  have pl := hp.lt
  have gl : gb < w.heap.size := World.block_lt_of_cell? _ _ hg
  have rl : rb < w.heap.size := World.block_lt_of_cell? _ _ hr0
  have c0 : w.cell? ⟨p, 0, none⟩ = some (.pointer (some ⟨gb, 0, none⟩)) := by rw [hp.cell]; rfl
  have c6 : w.cell? ⟨p, 6, none⟩ = some (.int .u8 k) := by rw [hp.cell]; rfl
  have c7 : w.cell? ⟨p, 7, none⟩ = some (.int .i64 si) := by rw [hp.cell]; rfl
  have c8 : w.cell? ⟨p, 8, none⟩ = some (.string tx) := by rw [hp.cell]; rfl
  have c9 : w.cell? ⟨p, 9, none⟩ = some (.int .i32 li) := by rw [hp.cell]; rfl
  have c10 : w.cell? ⟨p, 10, none⟩ = some (.int .i32 co) := by rw [hp.cell]; rfl
  have pl' : p < w.heap.size + 1 := by omega
  have gl' : gb < w.heap.size + 1 := by omega
  have rl' : rb < w.heap.size + 1 := by omega
  have HP := keep hp
  have HM := keep hm
  clear hp hm
  go_enter Ybaf.func4, Ybaf.ntmps4
  go_wp2
  go_quiet (fail)
  go_wp2_with fail
  refine (nested_ok p gb _ k si tx li co d md NF nn _ hd hwd ((Par.alloc HP.out _).drewN nq) (by have := HM.out; go_simp)).mono ?_
  rintro e w1 ⟨⟨v, rfl, he⟩, gr, hp1⟩
  have HE := keep he
  have HP1 := keep hp1
  obtain ⟨b, msg, rfl, _⟩ := he
  clear hp1
  go_wp2
  go_ret2
  exact ⟨⟨_, rfl, HE.out.le (by simp)⟩, grown_trans (grown_none (grown_drewN (World.grownBy_alloc w _ none) nq) _) gr, HP1.out⟩

set_option maxHeartbeats 2000000 in
set_option maxRecDepth 100000 in
theorem operand_in_group (F : Interp) (p gb rb n cap si : Nat) (k : Int) (tx : ByteArray) (li co d md bp : Int) (op : Bool) (NF : Value) (nn : Int) (w : World) (hF : F.answers w.tape) (k0 : (k == 0) = false) (k1 : (k == 1) = false) (k2 : (k == 2) = false) (hn : n ≤ 2000000) (hs : si < n) (hwd : (Lit.int .i64 d).wf = true) (hp : Par w p (.pointer (some ⟨gb, 0, none⟩)) k si tx li co d NF nn) (hg : w.cell? ⟨gb, 2, none⟩ = some (.slice (some ⟨rb, 0, none⟩) n cap)) (hm : w.cell? ⟨gb, 5, none⟩ = some (.int .i64 md)) (hr0 : w.cell? ⟨rb, si * 8, none⟩ = some (.int .i64 bp)) (hr1 : w.cell? ⟨rb, si * 8 + 1, none⟩ = some (.bool op)) (gp : gb ≠ p) (rp : rb ≠ p) (hb : (bp == 0) = true) (ho : op = true) (hd : (d == md) = false) :
    Calls Ybaf.prog 4 #[.pointer (some ⟨p, 0, none⟩)] w fun e w' => (∃ v, e = .returned (.tuple #[.pointer none, v]) ∧ IsErr w' w.heap.size 0 1 v eoiMsg) ∧ w.grownBy w' (some p) ∧ Par w' p (.pointer (some ⟨gb, 0, none⟩)) 0 0 ⟨#[]⟩ 0 1 d NF nn := by
  subst ho
  have pl := hp.lt
  have gl : gb < w.heap.size := World.block_lt_of_cell? _ _ hg
  have rl : rb < w.heap.size := World.block_lt_of_cell? _ _ hr0
  have c0 : w.cell? ⟨p, 0, none⟩ = some (.pointer (some ⟨gb, 0, none⟩)) := by rw [hp.cell]; rfl
  have c6 : w.cell? ⟨p, 6, none⟩ = some (.int .u8 k) := by rw [hp.cell]; rfl
  have c7 : w.cell? ⟨p, 7, none⟩ = some (.int .i64 si) := by rw [hp.cell]; rfl
  have c8 : w.cell? ⟨p, 8, none⟩ = some (.string tx) := by rw [hp.cell]; rfl
  have c9 : w.cell? ⟨p, 9, none⟩ = some (.int .i32 li) := by rw [hp.cell]; rfl
  have c10 : w.cell? ⟨p, 10, none⟩ = some (.int .i32 co) := by rw [hp.cell]; rfl
  have pl' : p < w.heap.size + 1 := by omega
  have gl' : gb < w.heap.size + 1 := by omega
  have rl' : rb < w.heap.size + 1 := by omega
  have HP := keep hp
  have HM := keep hm
  clear hp hm
  go_enter Ybaf.func4, Ybaf.ntmps4
  go_wp2
  go_quiet (fail)
  go_wp2_with fail
  refine (nested_ok p gb _ k si tx li co d md NF nn _ hd hwd ((Par.alloc HP.out _).drewN nq) (by have := HM.out; go_simp)).mono ?_
  rintro e w1 ⟨⟨v, rfl, he⟩, gr, hp1⟩
  have HE := keep he
  have HP1 := keep hp1
  obtain ⟨b, msg, rfl, _⟩ := he
  clear hp1
  go_wp2
  go_ret2
  exact ⟨⟨_, rfl, HE.out.le (by simp)⟩, grown_trans (grown_none (grown_drewN (World.grownBy_alloc w _ none) nq) _) gr, HP1.out⟩

end Go.Proofs.YbulkgemgFmt
