/-
  9054B, second text: advance, unexpected, open.
-/
import Derived.Test.YbulkgemgFmtWalkA
import Derived.WalkSpells
import Derived.Stop.CallBack
import Derived.Stop.IfaceNil
namespace Go.Proofs.YbulkgemgFmt
open Go.RowKit Go.Extern.Stop Go.Stop Go.Extern
set_option linter.unusedSimpArgs false
set_option linter.unusedVariables false

section
variable {w w' : World} {p : Nat} {G : Value} {k s : Int} {tx : ByteArray} {li co d : Int} {NF : Value} {nn : Int}
theorem Par.setTok (h : Par w p G k s tx li co d NF nn) (k' s' : Int) (tx' : ByteArray) (li' co' : Int) :
    Par (((((w.setCell ⟨p, 6, none⟩ (.int .u8 k')).setCell ⟨p, 7, none⟩ (.int .i64 s')).setCell ⟨p, 8, none⟩ (.string tx')).setCell ⟨p, 9, none⟩ (.int .i32 li')).setCell ⟨p, 10, none⟩ (.int .i32 co')) p G k' s' tx' li' co' d NF nn := by
  unfold Par at h ⊢
  rw [heap_setCell_at (heap_setCell_at (heap_setCell_at (heap_setCell_at (heap_setCell_at h _ _) _ _) _ _) _ _) _ _]
  simp [PB]
theorem Par.setDepth (h : Par w p G k s tx li co d NF nn) (d' : Int) : Par (w.setCell ⟨p, 11, none⟩ (.int .i64 d')) p G k s tx li co d' NF nn := by
  unfold Par at h ⊢
  rw [heap_setCell_at h]
  simp [PB]
end

set_option maxHeartbeats 1000000 in
theorem advance_any (p : Nat) (G : Value) (k s : Int) (tx : ByteArray) (li co d : Int) (NF : Value) (nn : Int) (w : World) (hp : Par w p G k s tx li co d NF nn) :
    Calls Ybaf.prog 6 #[.pointer (some ⟨p, 0, none⟩)] w fun e w' => e = .returned .nilIface ∧ w.grownBy w' (some p) ∧ Par w' p G 0 0 ⟨#[]⟩ 0 1 d NF nn := by
  have HN := keep (next_zero p w hp.lt (by rw [hp.cell]; rfl) (by rw [hp.cell]; rfl) (by rw [hp.cell]; rfl) (by rw [hp.cell]; rfl))
  have HP := keep hp
  clear hp
  go_enter Ybaf.func6, Ybaf.ntmps6
  go_wp2_with fail
  refine HN.out.mono ?_
  rintro e w1 ⟨rfl, gr⟩
  have HP1 := keep (Par.grown HP.out gr (by simp))
  have c6 : w1.cell? ⟨p, 6, none⟩ = some (.int .u8 k) := by rw [HP1.out.cell]; rfl
  have c7 : w1.cell? ⟨p, 7, none⟩ = some (.int .i64 s) := by rw [HP1.out.cell]; rfl
  have c8 : w1.cell? ⟨p, 8, none⟩ = some (.string tx) := by rw [HP1.out.cell]; rfl
  have c9 : w1.cell? ⟨p, 9, none⟩ = some (.int .i32 li) := by rw [HP1.out.cell]; rfl
  have c10 : w1.cell? ⟨p, 10, none⟩ = some (.int .i32 co) := by rw [HP1.out.cell]; rfl
  have hf := HP1.out.free
  go_wp2
  go_ret
  refine ⟨rfl, ?_, HP1.out.setTok _ _ _ _ _⟩
  have HB := grown_none gr (some p)
  repeat (with_reducible first | exact HB | refine grown_setCell ?_ (by exact Or.inr rfl) _)

theorem call14 (args : Array Value) (w : World) : (callFunc 14 args).run Ybaf.prog w = ((FmtStop.sprintf #[9, 119] #[9] args).run Ybaf.prog w).andThen fun v w' => .ok (.value v) w' :=
  run_callFunc_extern Ybaf.func14 (by kernel_rfl) (by kernel_rfl) (by kernel_rfl) (by kernel_rfl) args w
theorem guardF (name : String) (w : World) : (FmtStop.guard name).run Ybaf.prog w = .ok () w := by kernel_rfl
-- the format 'unexpected, quoted'
theorem fmt0 : FmtStop.printed? ⟨#[117, 110, 101, 120, 112, 101, 99, 116, 101, 100, 32, 37, 113]⟩ 1 = some [(0, 113, false)] := by kernel_rfl
theorem fmt0r (w : World) : (FmtDoors.printed ⟨#[117, 110, 101, 120, 112, 101, 99, 116, 101, 100, 32, 37, 113]⟩ 1).run Ybaf.prog w = .ok [(0, 113, false)] w := by kernel_rfl
-- the format 'nesting deeper than, a number'
theorem fmt1 : FmtStop.printed? ⟨#[110, 101, 115, 116, 105, 110, 103, 32, 100, 101, 101, 112, 101, 114, 32, 116, 104, 97, 110, 32, 37, 100]⟩ 1 = some [(0, 100, false)] := by kernel_rfl
theorem fmt1r (w : World) : (FmtDoors.printed ⟨#[110, 101, 115, 116, 105, 110, 103, 32, 100, 101, 101, 112, 101, 114, 32, 116, 104, 97, 110, 32, 37, 100]⟩ 1).run Ybaf.prog w = .ok [(0, 100, false)] w := by kernel_rfl
def shape9 : List UInt8 := [12, 6, 0, 0, 0, 0, 0, 0, 0, 115, 116, 114, 105, 110, 103]
theorem op9_113 (name : String) (x : ByteArray) (w : World) : (FmtStop.operand name false 113 false (.iface 9 (.string x))).run Ybaf.prog w = .ok (shape9, FmtStop.pack x.data.toList) w := by kernel_rfl
def shape3 : List UInt8 := [5, 3, 0, 0, 0, 0, 0, 0, 0, 105, 110, 116]
theorem op3_100 (name : String) (x : Int) (w : World) : (FmtStop.operand name false 100 false (.iface 3 (.int .i64 x))).run Ybaf.prog w = .ok (shape3, Go.Extern.Stop.digits 8 (x % 2 ^ 64).toNat) w := by kernel_rfl
attribute [local go_sem] call14 guardF fmt0 fmt0r fmt1 fmt1r op9_113 op3_100

/-- what the caller is told of an error: where it lies, its position, its message. -/
def IsErr (w : World) (B : Nat) (li co : Int) (v : Value) (M : ByteArray → Prop) : Prop :=
  ∃ (b : Nat) (msg : ByteArray), v = .iface 62 (.pointer (some ⟨b, 0, none⟩)) ∧ B ≤ b ∧ b < w.heap.size ∧ w.cell? ⟨b, 0, none⟩ = some (.int .i32 li) ∧ w.cell? ⟨b, 1, none⟩ = some (.int .i32 co) ∧ w.cell? ⟨b, 2, none⟩ = some (.string msg) ∧ M msg

def eoiMsg (m : ByteArray) : Prop := m = ⟨#[117, 110, 101, 120, 112, 101, 99, 116, 101, 100, 32, 101, 110, 100, 32, 111, 102, 32, 105, 110, 112, 117, 116]⟩

set_option maxHeartbeats 1000000 in
theorem unexpected_eof (p : Nat) (G : Value) (s : Int) (tx : ByteArray) (li co d : Int) (NF : Value) (nn : Int) (w : World) (hp : Par w p G 0 s tx li co d NF nn) :
    Calls Ybaf.prog 7 #[.pointer (some ⟨p, 0, none⟩)] w fun e w' => (∃ v, e = .returned v ∧ IsErr w' w.heap.size li co v eoiMsg) ∧ w.grownBy w' none := by
  have c6 : w.cell? ⟨p, 6, none⟩ = some (.int .u8 0) := by rw [hp.cell]; rfl
  have c9 : w.cell? ⟨p, 9, none⟩ = some (.int .i32 li) := by rw [hp.cell]; rfl
  have c10 : w.cell? ⟨p, 10, none⟩ = some (.int .i32 co) := by rw [hp.cell]; rfl
  clear hp
  go_enter Ybaf.func7, Ybaf.ntmps7
  go_wp2
  go_ret
  refine ⟨⟨_, rfl, w.heap.size, _, rfl, Nat.le_refl _, by simp, by simp [go_sem], by simp [go_sem], by simp [go_sem], rfl⟩, ?_⟩
  repeat (with_reducible first | exact World.grownBy.refl _ _ | refine grown_alloc ?_ _ | refine grown_drew ?_)

set_option maxHeartbeats 1000000 in
set_option maxRecDepth 100000 in
theorem unexpected_other (F : Interp) (p : Nat) (G : Value) (k s : Int) (tx : ByteArray) (li co d : Int) (NF : Value) (nn : Int) (w : World) (hF : F.answers w.tape) (hk : (k == 0) = false) (hp : Par w p G k s tx li co d NF nn) :
    Calls Ybaf.prog 7 #[.pointer (some ⟨p, 0, none⟩)] w fun e w' => (∃ v, e = .returned v ∧ IsErr w' w.heap.size li co v (fun _ => True)) ∧ w.grownBy w' none := by
  have pl := hp.lt
  have c6 : w.cell? ⟨p, 6, none⟩ = some (.int .u8 k) := by rw [hp.cell]; rfl
  have c8 : w.cell? ⟨p, 8, none⟩ = some (.string tx) := by rw [hp.cell]; rfl
  have c9 : w.cell? ⟨p, 9, none⟩ = some (.int .i32 li) := by rw [hp.cell]; rfl
  have c10 : w.cell? ⟨p, 10, none⟩ = some (.int .i32 co) := by rw [hp.cell]; rfl
  have ne := World.new_ne w _ c9
  clear hp
  have hF' := answers_open hF
  go_enter Ybaf.func7, Ybaf.ntmps7
  go_wp2
  go_region_held3 (fun w' => w'.cell? ⟨p, 8, none⟩ = some (.string tx) ∧ w'.cell? ⟨p, 9, none⟩ = some (.int .i32 li) ∧ w'.cell? ⟨p, 10, none⟩ = some (.int .i32 co)) (go_keep) (fail)
  go_wp2
  go_ret
  generalize FmtStop.textOf _ = msg
  refine ⟨⟨_, rfl, w.heap.size + 1, msg, rfl, by omega, by simp, by simp [go_sem], by simp [go_sem], by simp [go_sem], trivial⟩, ?_⟩
  repeat (with_reducible first | exact World.grownBy.refl _ _ | refine grown_alloc ?_ _ | refine grown_drew ?_ | refine grown_drewN ?_ _)

set_option maxHeartbeats 1000000 in
set_option maxRecDepth 100000 in
theorem open_deep (F : Interp) (p gb : Nat) (k s : Int) (tx : ByteArray) (li co d md : Int) (NF : Value) (nn : Int) (w : World) (hF : F.answers w.tape) (hd : (d == md) = true) (hp : Par w p (.pointer (some ⟨gb, 0, none⟩)) k s tx li co d NF nn) (hm : w.cell? ⟨gb, 5, none⟩ = some (.int .i64 md)) :
    Calls Ybaf.prog 15 #[.pointer (some ⟨p, 0, none⟩)] w fun e w' => (∃ v, e = .returned v ∧ IsErr w' w.heap.size li co v (fun _ => True)) ∧ w.grownBy w' none := by
  have pl := hp.lt
  have gl := World.block_lt_of_cell? _ _ hm
  have c0 : w.cell? ⟨p, 0, none⟩ = some (.pointer (some ⟨gb, 0, none⟩)) := by rw [hp.cell]; rfl
  have c9 : w.cell? ⟨p, 9, none⟩ = some (.int .i32 li) := by rw [hp.cell]; rfl
  have c10 : w.cell? ⟨p, 10, none⟩ = some (.int .i32 co) := by rw [hp.cell]; rfl
  have c11 : w.cell? ⟨p, 11, none⟩ = some (.int .i64 d) := by rw [hp.cell]; rfl
  have ne := World.new_ne w _ c9
  have ne2 := World.new_ne w _ hm
  clear hp
  have hF' := answers_open hF
  go_enter Ybaf.func15, Ybaf.ntmps15
  go_wp2
  go_quiet (fail)
  go_wp2
  have c0' : (w.drewN nq).cell? ⟨p, 0, none⟩ = some (.pointer (some ⟨gb, 0, none⟩)) := c0
  have c9' : (w.drewN nq).cell? ⟨p, 9, none⟩ = some (.int .i32 li) := c9
  have c10' : (w.drewN nq).cell? ⟨p, 10, none⟩ = some (.int .i32 co) := c10
  have hm' : (w.drewN nq).cell? ⟨gb, 5, none⟩ = some (.int .i64 md) := hm
  have hF2 : F.answers (w.drewN nq).tape := hF
  have gw := keep (grown_drewN (World.grownBy.refl w none) nq)
  have hz : w.heap.size ≤ (w.drewN nq).heap.size := Nat.le_refl _
  clear c0 c9 c10 c11 hm hF' ne ne2 pl gl
  generalize w.drewN nq = w1 at *
  have pl := World.block_lt_of_cell? _ _ c9'
  have gl := World.block_lt_of_cell? _ _ hm'
  have ne := World.new_ne w1 _ c9'
  have ne2 := World.new_ne w1 _ hm'
  have hF' := answers_open hF2
  go_region_held3 (fun w' => w'.cell? ⟨p, 0, none⟩ = some (.pointer (some ⟨gb, 0, none⟩)) ∧ w'.cell? ⟨p, 9, none⟩ = some (.int .i32 li) ∧ w'.cell? ⟨p, 10, none⟩ = some (.int .i32 co) ∧ w'.cell? ⟨gb, 5, none⟩ = some (.int .i64 md)) (go_keep) (fail)
  go_wp2
  go_ret
  generalize FmtStop.textOf _ = msg
  refine ⟨⟨_, rfl, w1.heap.size + 1, msg, rfl, by omega, by simp, by simp [go_sem], by simp [go_sem], by simp [go_sem], trivial⟩, ?_⟩
  have HB := gw.out
  repeat (with_reducible first | exact HB | refine grown_alloc ?_ _ | refine grown_drew ?_ | refine grown_drewN ?_ _)

set_option maxHeartbeats 1000000 in
theorem open_ok (p gb : Nat) (k s : Int) (tx : ByteArray) (li co d md : Int) (NF : Value) (nn : Int) (w : World) (hd : (d == md) = false) (hp : Par w p (.pointer (some ⟨gb, 0, none⟩)) k s tx li co d NF nn) (hm : w.cell? ⟨gb, 5, none⟩ = some (.int .i64 md)) :
    Calls Ybaf.prog 15 #[.pointer (some ⟨p, 0, none⟩)] w fun e w' => e = .returned .nilIface ∧ w.grownBy w' (some p) ∧ Par w' p (.pointer (some ⟨gb, 0, none⟩)) 0 0 ⟨#[]⟩ 0 1 (wrap64 (d + 1)) NF nn := by
  have pl := hp.lt
  have gl := World.block_lt_of_cell? _ _ hm
  have c0 : w.cell? ⟨p, 0, none⟩ = some (.pointer (some ⟨gb, 0, none⟩)) := by rw [hp.cell]; rfl
  have c11 : w.cell? ⟨p, 11, none⟩ = some (.int .i64 d) := by rw [hp.cell]; rfl
  have hf := hp.free 11
  have HP := keep hp
  clear hp
  go_enter Ybaf.func15, Ybaf.ntmps15
  go_wp2
  go_quiet (fail)
  go_wp2_with fail
  have HP1 := keep (Par.setDepth (Par.drewN HP.out nq) (wrap64 (d + 1)))
  refine (advance_any _ _ _ _ _ _ _ _ _ _ _ HP1.out).mono ?_
  rintro e w1 ⟨rfl, gr, hp1⟩
  have HP2 := keep hp1
  clear hp1
  go_wp2
  go_ret
  exact ⟨rfl, grown_trans (grown_setCell (grown_drewN (World.grownBy.refl _ _) nq) (Or.inr rfl) _) gr, HP2.out⟩
end Go.Proofs.YbulkgemgFmt
