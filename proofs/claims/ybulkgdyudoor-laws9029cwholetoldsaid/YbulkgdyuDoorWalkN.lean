/-
  9029C, second text: the buffered reader: its state, readErr (21), fill (22).
-/
import Derived.Test.YbulkgdyuDoorWalkM
import Derived.LaidEql
namespace Go.Proofs.YbulkgdyuDoor.C
open Go.RowKit Go.Lib Go.Proofs.YbulkgdyuDoor
set_option linter.unusedSimpArgs false
set_option linter.unusedVariables false

abbrev Ev (ea : Addr) : Value := .iface 53 (.pointer (some ea))
def brCells (fb rb : Nat) (r wd : Nat) (er : Value) (lb lr : Int) : Obj := .cells #[.slice (some ⟨fb, 0, none⟩) 16384 16384, .iface 40 (.pointer (some ⟨rb, 0, none⟩)), .int .i64 r, .int .i64 wd, er, .int .i64 lb, .int .i64 lr] 64 (0, 0)

/-- the state: c bytes are handed on, k lie in the buffer from r on. -/
structure St (B : Nat) (w : World) (rb bb fb : Nat) (dv : Value) (ea : Addr) (dl : List UInt8) (ch c k r : Nat) (er : Value) : Prop where
  rd : RdAt w rb dv (c + k) ch (Ev ea)
  br : ∃ lb lr : Int, w.heap[bb]? = some (brCells fb rb r (r + k) er lb lr)
  buf : ∃ cur : List Value, w.heap[fb]? = some (.cells cur.toArray 5 (0, 0)) ∧ cur.length = 16384 ∧ ∀ j, j < k → cur[r + j]? = some (.int .u8 (dl.getD (c + j) 0).toNat)
  fit : r + k ≤ 7
  le : c + k ≤ dl.length
  ne1 : rb ≠ bb
  ne2 : rb ≠ fb
  ne3 : bb ≠ fb
  lo : B ≤ rb ∧ B ≤ bb ∧ B ≤ fb
  data : DAt B w dv dl
  small : dl.length ≤ 1048576
  chs : 1 ≤ ch ∧ ch ≤ 7

theorem meth40 (a : Addr) (w : World) : (method 425 40 (.pointer (some a)) "Read").run Ybad.prog w = .ok (58, .pointer (some a)) w := by kernel_rfl
theorem meth43 (a : Addr) (w : World) : (method 425 43 (.pointer (some a)) "Read").run Ybad.prog w = .ok (59, .pointer (some a)) w := by kernel_rfl
theorem ne_ev (W : World) (a : Addr) : (binOp .neq 38 (.iface 53 (.pointer (some a))) .nilIface).run Ybad.prog W = .ok (.bool true) W := by kernel_rfl
theorem ne_nils (W : World) : (binOp .neq 38 .nilIface .nilIface).run Ybad.prog W = .ok (.bool false) W := by kernel_rfl
theorem eq_ev (W : World) (a : Addr) : (binOp .eql 38 (.iface 53 (.pointer (some a))) .nilIface).run Ybad.prog W = .ok (.bool false) W := by kernel_rfl
theorem eq_nils (W : World) : (binOp .eql 38 .nilIface .nilIface).run Ybad.prog W = .ok (.bool true) W := by kernel_rfl
attribute [local go_sem] meth40 meth43 ne_ev ne_nils eq_ev eq_nils
theorem br_cell {w : World} {bb fb rb r wd : Nat} {er : Value} {lb lr : Int} (h : w.heap[bb]? = some (brCells fb rb r wd er lb lr)) :
    w.cell? ⟨bb, 0, none⟩ = some (.slice (some ⟨fb, 0, none⟩) 16384 16384) ∧ w.cell? ⟨bb, 1, none⟩ = some (.iface 40 (.pointer (some ⟨rb, 0, none⟩))) ∧ w.cell? ⟨bb, 2, none⟩ = some (.int .i64 r) ∧ w.cell? ⟨bb, 3, none⟩ = some (.int .i64 wd) ∧
    w.cell? ⟨bb, 4, none⟩ = some er ∧ w.cell? ⟨bb, 5, none⟩ = some (.int .i64 lb) ∧ w.cell? ⟨bb, 6, none⟩ = some (.int .i64 lr) ∧ ∀ o, w.frozen? ⟨bb, o, none⟩ = false := by
  unfold brCells at h
  exact ⟨by simp [World.cell?, h], by simp [World.cell?, h], by simp [World.cell?, h], by simp [World.cell?, h], by simp [World.cell?, h], by simp [World.cell?, h], by simp [World.cell?, h], fun o => by simp [World.frozen?, h]⟩
section
variable {w : World} {bb fb rb r wd : Nat} {er : Value} {lb lr : Int}
theorem br_set2 (h : w.heap[bb]? = some (brCells fb rb r wd er lb lr)) (x : Nat) {z : Int} (hz : z = (x : Nat)) : (w.setCell ⟨bb, 2, none⟩ (.int .i64 z)).heap[bb]? = some (brCells fb rb x wd er lb lr) := by
  subst hz; unfold brCells at *; simp [World.setCell, Array.getElem?_modify, h]
theorem br_set3 (h : w.heap[bb]? = some (brCells fb rb r wd er lb lr)) (x : Nat) {z : Int} (hz : z = (x : Nat)) : (w.setCell ⟨bb, 3, none⟩ (.int .i64 z)).heap[bb]? = some (brCells fb rb r x er lb lr) := by
  subst hz; unfold brCells at *; simp [World.setCell, Array.getElem?_modify, h]
theorem br_set4 (h : w.heap[bb]? = some (brCells fb rb r wd er lb lr)) (x : Value) : (w.setCell ⟨bb, 4, none⟩ x).heap[bb]? = some (brCells fb rb r wd x lb lr) := by
  unfold brCells at *; simp [World.setCell, Array.getElem?_modify, h]
theorem br_set5 (h : w.heap[bb]? = some (brCells fb rb r wd er lb lr)) (x : Int) : (w.setCell ⟨bb, 5, none⟩ (.int .i64 x)).heap[bb]? = some (brCells fb rb r wd er x lr) := by
  unfold brCells at *; simp [World.setCell, Array.getElem?_modify, h]
theorem br_set6 (h : w.heap[bb]? = some (brCells fb rb r wd er lb lr)) (x : Int) : (w.setCell ⟨bb, 6, none⟩ (.int .i64 x)).heap[bb]? = some (brCells fb rb r wd er lb x) := by
  unfold brCells at *; simp [World.setCell, Array.getElem?_modify, h]
end

set_option maxRecDepth 100000 in
set_option maxHeartbeats 1000000 in
theorem readErr_any {bb fb rb r wd : Nat} {er : Value} {lb lr : Int} (w : World) (h : w.heap[bb]? = some (brCells fb rb r wd er lb lr)) :
    Calls Ybad.prog 21 #[.pointer (some ⟨bb, 0, none⟩)] w fun e w' => e = .returned er ∧ w' = w.setCell ⟨bb, 4, none⟩ .nilIface := by
  obtain ⟨_, _, _, _, c4, _, _, fz⟩ := br_cell h
  have f4 := fz 4
  clear fz h
  go_enter Ybad.func21, Ybad.ntmps21
  go_wp2_with fail
  go_ret
  exact ⟨rfl, rfl⟩

/-- the reader's Read into a row of the call's own: one of two ends. -/
theorem rd_any {rb g off m pc B ch pos : Nat} {t : TypeId} {cur : List Value} {dv : Value} {ea : Addr} {dl : List UInt8} (w : World) (hm : 0 < m) (hm2 : m ≤ 100000000) (hdl : dl.length ≤ 1048576) (hch : 1 ≤ ch ∧ ch ≤ 7) (hp : pos ≤ dl.length)
    (hd : DAt B w dv dl) (hr : RdAt w rb dv pos ch (Ev ea)) (hg : w.heap[g]? = some (.cells cur.toArray t (0, 0))) (hne : g ≠ rb) (hfit : off + m ≤ cur.length) (hBr : B ≤ rb) (hBg : B ≤ g) :
    Calls Ybad.prog 58 #[.pointer (some ⟨rb, 0, none⟩), .slice (some ⟨g, off, none⟩) m pc] w fun e w' =>
      (∃ n, 1 ≤ n ∧ n ≤ 7 ∧ n ≤ m ∧ pos + n ≤ dl.length ∧ e = .returned (.tuple #[.int .i64 (n : Nat), .nilIface]) ∧ RdAt w' rb dv (pos + n) ch (Ev ea) ∧ w'.heap[g]? = some (.cells (splice cur off (byteCells (seg dl pos n))).toArray t (0, 0)) ∧ Fr (fun i => i = rb ∨ i = g) w w') ∨
      (pos = dl.length ∧ e = .returned (.tuple #[.int .i64 0, Ev ea]) ∧ ∃ q, w' = w.drewN q) := by
  rcases Nat.lt_or_ge pos dl.length with h | h
  · refine (rd_some w hm hm2 hdl hch h hd hr hg hne hfit hBr hBg).mono ?_
    rintro e w' ⟨rfl, h1, h2, h3⟩
    refine Or.inl ⟨_, ?_, ?_, ?_, ?_, rfl, h1, h2, h3⟩ <;> unfold cnt <;> omega
  · obtain rfl : pos = dl.length := by omega
    refine (rd_end w hm hm2 hdl hd hr).mono ?_
    rintro e w' ⟨rfl, h1⟩
    exact Or.inr ⟨rfl, rfl, h1⟩
theorem DAt.drewN {B : Nat} {w : World} {dv : Value} {dl : List UInt8} (h : DAt B w dv dl) (q : Nat) : DAt B (w.drewN q) dv dl := h
end Go.Proofs.YbulkgdyuDoor.C
