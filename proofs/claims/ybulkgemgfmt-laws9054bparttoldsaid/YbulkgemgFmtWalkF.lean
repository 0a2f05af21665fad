/-
  9054B, sixth text: what the law's walks lean on.
-/
import Derived.Test.YbulkgemgFmtWalkE
import Derived.Deep.RegionLaw
import Derived.Deep.DeepCutAuto
namespace Go.Proofs.YbulkgemgFmt
open Go.RowKit Go.Extern.Stop Go.Stop Go.Extern
set_option linter.unusedSimpArgs false
set_option linter.unusedVariables false

/-- One drawn role, as plain data. -/
structure Inp where
  bp : Int
  op : Bool
  cl : Int

/-- what the argument's row holds. -/
def ArgRow (w : World) (b off n : Nat) (I : Nat → Inp) : Prop :=
  ∀ i, i < n → w.cell? ⟨b, off + i * 3, none⟩ = some (.int .i64 (I i).bp) ∧ w.cell? ⟨b, off + i * 3 + 1, none⟩ = some (.bool (I i).op) ∧ w.cell? ⟨b, off + i * 3 + 2, none⟩ = some (.int .i64 (I i).cl)

def roleCells (x : Inp) : List Value := [.int .i64 x.bp, .bool x.op, .int .i64 x.cl, .int .u8 0, .int .i64 0, .int .i64 0, .pointer none, .bool false]

/-- the own row B of roles, m of room, whose first k are I's. -/
def Built (w : World) (B m k : Nat) (I : Nat → Inp) : Prop :=
  ∃ cur : Array Value, w.heap[B]? = some (.cells cur 29 (0, 0)) ∧ cur.size = m * 8 ∧ ∀ i, i < k → ∀ c, c < 8 → cur[i * 8 + c]? = (roleCells (I i))[c]?

theorem info29 : (Ybaf.prog.info? 29).map (fun i => (i.zero, i.size, i.bytes)) = some (some (.agg #[.int .i64 0, .bool false, .int .i64 0, .int .u8 0, .int .i64 0, .int .i64 0, .pointer none, .bool false]), 8, 64) := by kernel_rfl

/-- a row with a run of cells written. -/
def setMany (cur : Array Value) : Nat → List Value → Array Value
  | _, [] => cur
  | o, v :: r => setMany (cur.setIfInBounds o v) (o + 1) r
theorem size_setMany : ∀ (vs : List Value) (cur : Array Value) (o : Nat), (setMany cur o vs).size = cur.size
  | [], _, _ => rfl
  | v :: r, cur, o => by rw [setMany, size_setMany r]; simp
theorem setMany_before : ∀ (vs : List Value) (cur : Array Value) (o j : Nat), j < o → (setMany cur o vs)[j]? = cur[j]?
  | [], _, _, _, _ => rfl
  | v :: r, cur, o, j, h => by rw [setMany, setMany_before r _ _ _ (by omega), Array.getElem?_setIfInBounds, if_neg (by omega)]
theorem setMany_at : ∀ (vs : List Value) (cur : Array Value) (o c : Nat), c < vs.length → o + c < cur.size → (setMany cur o vs)[o + c]? = vs[c]?
  | [], _, _, _, h, _ => by simp at h
  | v :: r, cur, o, 0, _, h2 => by
    rw [setMany, setMany_before r _ _ _ (by omega), Array.getElem?_setIfInBounds]
    simp at h2 ⊢
    simp [h2]
  | v :: r, cur, o, c + 1, h, h2 => by
    have := setMany_at r (cur.setIfInBounds o v) (o + 1) c (by simp at h; omega) (by simp; omega)
    rw [setMany, show o + (c + 1) = o + 1 + c by omega, this]
    simp
theorem heap_setCells_at {B : Nat} {e : TypeId} : ∀ (vs : List Value) (w : World) (cur : Array Value) (o : Nat), w.heap[B]? = some (.cells cur e (0, 0)) → (w.setCells B o vs).heap[B]? = some (.cells (setMany cur o vs) e (0, 0))
  | [], _, _, _, h => h
  | v :: r, w, cur, o, h => heap_setCells_at r _ _ _ (heap_setCell_at h o v)
theorem grown_setCells {a : World} {r : Option Nat} {B : Nat} (hB : a.heap.size ≤ B) : ∀ (vs : List Value) (b : World) (o : Nat), a.grownBy b r → a.grownBy (b.setCells B o vs) r
  | [], _, _, h => h
  | v :: t, b, o, h => grown_setCells hB t _ _ (grown_setCell h (Or.inl hB) v)

theorem Built.next {w : World} {B m k : Nat} {I : Nat → Inp} (h : Built w B m k I) (hk : k < m) : Built (w.setCells B (k * 8) (roleCells (I k))) B m (k + 1) I := by
  obtain ⟨cur, h1, h2, h3⟩ := h
  refine ⟨_, heap_setCells_at _ _ _ _ h1, by rw [size_setMany]; exact h2, fun i hi c hc => ?_⟩
  by_cases e : i = k
  · subst e
    exact setMany_at _ _ _ _ (by simpa [roleCells] using hc) (by omega)
  · rw [setMany_before _ _ _ _ (by omega)]
    exact h3 i (by omega) c hc
theorem Built.below {w w' : World} {B m k : Nat} {I : Nat → Inp} (h : Built w B m k I) (hb : w'.heap[B]? = w.heap[B]?) : Built w' B m k I := by
  obtain ⟨cur, h1, h2, h3⟩ := h
  exact ⟨cur, hb.trans h1, h2, h3⟩
theorem Built.there {w : World} {B m k : Nat} {I : Nat → Inp} (h : Built w B m k I) {j : Nat} (hj : j < m * 8) : (w.cell? ⟨B, j, none⟩).isSome = true ∧ w.frozen? ⟨B, j, none⟩ = false := by
  obtain ⟨cur, h1, h2, h3⟩ := h
  constructor
  · simp [World.cell?, h1]; omega
  · simp [World.frozen?, h1]
theorem made_built {w w' : World} {n : Nat} {I : Nat → Inp} {xs : List Value} (h : w'.ownsRow w.heap.size 29 8 (.slice (some ⟨w.heap.size, 0, none⟩) 0 n) 0 xs) : Built w' w.heap.size n 0 I := by
  obtain ⟨h1, h2⟩ := h
  rcases h2 with ⟨h2, _⟩ | ⟨g, cap, cur, hv, _, hh, _, _, hs, _⟩
  · cases h2
  · simp at hv
    obtain ⟨rfl, rfl⟩ := hv
    exact ⟨cur, hh, hs, fun i hi => by omega⟩

theorem new_role (w : World) (x : Inp) : ∀ (j : Nat) (u : Value), (roleCells x)[j]? = some u → (w.alloc (.cells #[.int .i64 x.bp, .bool x.op, .int .i64 x.cl, .int .u8 0, .int .i64 0, .int .i64 0, .pointer none, .bool false] 29)).drew.cell? ((⟨w.heap.size, 0, none⟩ : Addr).add j) = some u := by
  intro j u hj
  have e : ((⟨w.heap.size, 0, none⟩ : Addr).add j) = ⟨w.heap.size, j, none⟩ := by rw [Addr.add_lit]; simp
  rw [e, World.cell?_drew]
  show (match (w.heap.push _)[w.heap.size]? with | some (.cells c _ _) => c[j]? | _ => none) = some u
  simp
  simpa [roleCells] using hj
theorem out_cell {w : World} {o : Obj} {B o' b x : Nat} {vs : List Value} (hne : b ≠ B) (hlt : b < w.heap.size) : ((w.alloc o).drew.setCells B o' vs).cell? ⟨b, x, none⟩ = w.cell? ⟨b, x, none⟩ := by
  rw [World.cell?_setCells_out _ _ _ _ _ (fun e => absurd e hne), World.cell?_drew, World.cell?_alloc_lt _ _ _ hlt]
theorem role_one (x : Inp) : ∀ u ∈ roleCells x, u.oneCell' = true := by
  intro u hu
  simp [roleCells] at hu
  rcases hu with rfl | rfl | rfl | rfl | rfl | rfl | rfl | rfl <;> rfl
theorem role_there {w : World} {B m k : Nat} {I : Nat → Inp} {x : Inp} {o : Obj} (h : Built w B m k I) (hB : B < w.heap.size) (hk : k < m) :
    ∀ j, j < (roleCells x).length → ((w.alloc o).drew.cell? ⟨B, 0 + k * 8 + j, none⟩).isSome = true ∧ (w.alloc o).drew.frozen? ⟨B, 0 + k * 8 + j, none⟩ = false := by
  intro j hj
  have hj' : j < 8 := by simpa [roleCells] using hj
  have hb : Built (w.alloc o) B m k I := h.below (Below.heap_alloc w o B hB)
  exact hb.there (by omega)

theorem size_setCells (B : Nat) : ∀ (vs : List Value) (w : World) (o : Nat), (w.setCells B o vs).heap.size = w.heap.size
  | [], _, _ => rfl
  | v :: t, w, o => by rw [World.setCells, size_setCells B t]; simp [World.setCell]
theorem next_size {w : World} {o : Obj} {B o' : Nat} {vs : List Value} (h : B < w.heap.size) : B < ((w.alloc o).drew.setCells B o' vs).heap.size := by
  rw [size_setCells]; show B < (w.alloc o).heap.size; simp; omega
theorem next_built {w : World} {o : Obj} {B m k : Nat} {I : Nat → Inp} (h : Built w B m k I) (hB : B < w.heap.size) (hk : k < m) : Built ((w.alloc o).drew.setCells B (k * 8) (roleCells (I k))) B m (k + 1) I := by
  have hb : Built (w.alloc o).drew B m k I := h.below (Below.heap_alloc w o B hB)
  exact hb.next hk

theorem empty_built {w : World} {B : Nat} {I : Nat → Inp} {o : Obj} (h : Built w B (0 + 1) 0 I) (hB : B < w.heap.size) :
    Built (((((((((w.setCell ⟨B, 0, none⟩ (.int .i64 0)).setCell ⟨B, 1, none⟩ (.bool false)).setCell ⟨B, 2, none⟩ (.int .i64 0)).setCell ⟨B, 3, none⟩ (.int .u8 0)).setCell ⟨B, 4, none⟩ (.int .i64 0)).setCell ⟨B, 5, none⟩ (.int .i64 0)).setCell ⟨B, 6, none⟩ (.pointer none)).setCell ⟨B, 7, none⟩ (.bool false)).alloc o) B (0 + 1) 1 (fun _ => ⟨0, false, 0⟩) := by
  obtain ⟨cur, h1, h2, _⟩ := h
  have h' : Built w B (0 + 1) 0 (fun _ => ⟨0, false, 0⟩) := ⟨cur, h1, h2, fun i hi => by omega⟩
  have := h'.next (by omega)
  simp only [World.setCells, roleCells, Nat.zero_mul, Nat.zero_add, Nat.reduceAdd] at this
  exact this.below (Below.heap_alloc _ _ _ (by simpa [World.setCell] using hB))
theorem empty_grown {a w : World} {o : Obj} (h : a.grownBy w none) :
    a.grownBy (((((((((w.setCell ⟨a.heap.size, 0, none⟩ (.int .i64 0)).setCell ⟨a.heap.size, 1, none⟩ (.bool false)).setCell ⟨a.heap.size, 2, none⟩ (.int .i64 0)).setCell ⟨a.heap.size, 3, none⟩ (.int .u8 0)).setCell ⟨a.heap.size, 4, none⟩ (.int .i64 0)).setCell ⟨a.heap.size, 5, none⟩ (.int .i64 0)).setCell ⟨a.heap.size, 6, none⟩ (.pointer none)).setCell ⟨a.heap.size, 7, none⟩ (.bool false)).alloc o) none := by
  repeat (with_reducible first | exact h | refine grown_setCell ?_ (by exact Or.inl (Nat.le_refl _)) _ | refine grown_alloc ?_ _)

theorem Par.new (w : World) (G : Value) (k s : Int) (tx : ByteArray) (li co d : Int) :
    Par (w.alloc (.cells #[G, .pointer none, .string ⟨#[]⟩, .int .i64 0, .int .i32 0, .int .i64 0, .int .u8 k, .int .i64 s, .string tx, .int .i32 li, .int .i32 co, .int .i64 d, .slice none 0 0, .int .i64 0, .slice none 0 0, .int .i64 0, .slice none 0 0] 52)) w.heap.size G k s tx li co d (.slice none 0 0) 0 := by
  show (w.heap.push _)[w.heap.size]? = _
  simp [PB]

theorem nil_ne (W : World) : (binOp .neq 48 (.slice none 0 0) (.slice none 0 0)).run Ybaf.prog W = .ok (.bool false) W := by kernel_rfl
theorem nil_eq (W : World) : (binOp .eql 48 (.slice none 0 0) (.slice none 0 0)).run Ybaf.prog W = .ok (.bool true) W := by kernel_rfl
theorem br_eq (W : World) : (binOp .eql 59 (.pointer none) (.pointer none)).run Ybaf.prog W = .ok (.bool true) W := by kernel_rfl
theorem nd_ne (W : World) (a : Addr) : (binOp .neq 53 (.pointer (some a)) (.pointer none)).run Ybaf.prog W = .ok (.bool true) W := by kernel_rfl
theorem nd_eq (W : World) : (binOp .eql 53 (.pointer none) (.pointer none)).run Ybaf.prog W = .ok (.bool true) W := by kernel_rfl
theorem nd_neq (W : World) : (binOp .neq 53 (.pointer none) (.pointer none)).run Ybaf.prog W = .ok (.bool false) W := by kernel_rfl
theorem er_ne (W : World) (a : Addr) : (binOp .neq 62 (.pointer (some a)) (.pointer none)).run Ybaf.prog W = .ok (.bool true) W := by kernel_rfl
theorem er_eq (W : World) (a : Addr) : (binOp .eql 62 (.pointer (some a)) (.pointer none)).run Ybaf.prog W = .ok (.bool false) W := by kernel_rfl
theorem assert62 (W : World) (v : Value) : (Instr.typeAssert (.iface 62 v) 55 62 true).run Ybaf.prog W = .ok (.tuple #[v, .bool true]) W := by kernel_rfl
attribute [local go_sem] nil_ne nil_eq br_eq nd_ne nd_eq nd_neq er_ne er_eq assert62

theorem after3 {wc w2 : World} {o1 o2 o3 : Obj} (gr : (((wc.alloc o1).alloc o2).alloc o3).grownBy w2 (some (wc.heap.size + 1 + 1))) :
    w2.heap[wc.heap.size]? = some o1 ∧ w2.heap[wc.heap.size + 1]? = some o2 ∧ (∀ b, b < wc.heap.size → w2.heap[b]? = wc.heap[b]?) ∧ wc.heap.size + 3 ≤ w2.heap.size := by
  have hz := gr.size
  simp at hz
  have g1 : ∀ (x : World) (o : Obj), (x.alloc o).heap[x.heap.size]? = some o := fun x o => by show (x.heap.push o)[x.heap.size]? = _; simp
  refine ⟨?_, ?_, fun b hb => ?_, by omega⟩
  · rw [gr.block _ (by simp; omega) (by simp; omega), Below.heap_alloc _ _ _ (by simp; omega), Below.heap_alloc _ _ _ (by simp)]
    exact g1 _ _
  · rw [gr.block _ (by simp) (by simp), Below.heap_alloc _ _ _ (by simp)]
    have := g1 (wc.alloc o1) o2
    simpa using this
  · rw [gr.block _ (by simp; omega) (by simp; omega), Below.heap_alloc _ _ _ (by simp; omega), Below.heap_alloc _ _ _ (by simp; omega), Below.heap_alloc _ _ _ hb]
theorem Par.new3 (w : World) (o1 o2 : Obj) (G : Value) (k s : Int) (tx : ByteArray) (li co d : Int) :
    Par (((w.alloc o1).alloc o2).alloc (.cells #[G, .pointer none, .string ⟨#[]⟩, .int .i64 0, .int .i32 0, .int .i64 0, .int .u8 k, .int .i64 s, .string tx, .int .i32 li, .int .i32 co, .int .i64 d, .slice none 0 0, .int .i64 0, .slice none 0 0, .int .i64 0, .slice none 0 0] 52)) (w.heap.size + 1 + 1) G k s tx li co d (.slice none 0 0) 0 := by
  have := Par.new ((w.alloc o1).alloc o2) G k s tx li co d
  simpa using this
theorem old3 {wc : World} {o1 o2 o3 : Obj} {b o : Nat} (h : b < wc.heap.size) : (((wc.alloc o1).alloc o2).alloc o3).cell? ⟨b, o, none⟩ = wc.cell? ⟨b, o, none⟩ := by
  rw [World.cell?_alloc_lt _ _ _ (by simp; omega), World.cell?_alloc_lt _ _ _ (by simp; omega), World.cell?_alloc_lt _ _ _ h]
theorem grown_past {a b c : World} {p : Nat} (h : a.grownBy b none) (g : b.grownBy c (some p)) (hp : a.heap.size ≤ p) : a.grownBy c none :=
  ⟨g.os.trans h.os, g.tape.trans h.tape, g.output.trans h.output, Nat.le_trans h.size g.size, fun i hi _ => by
    rw [g.block i (Nat.lt_of_lt_of_le hi h.size) (by simp; omega)]; exact h.block i hi (by simp)⟩
theorem done_grown {a wc w2 : World} {o1 o2 o3 : Obj} (h : a.grownBy wc none) (gr : (((wc.alloc o1).alloc o2).alloc o3).grownBy w2 (some (wc.heap.size + 1 + 1))) : a.grownBy w2 none :=
  grown_past (grown_alloc (grown_alloc (grown_alloc h _) _) _) gr (by have := h.size; omega)

theorem role_cells {w : World} {B m k : Nat} {I : Nat → Inp} (h : Built w B m k I) {i : Nat} (hi : i < k) :
    ∀ c, c < 8 → w.cell? ⟨B, i * 8 + c, none⟩ = (roleCells (I i))[c]? := by
  obtain ⟨cur, h1, h2, h3⟩ := h
  intro c hc
  rw [← h3 i hi c hc]
  simp [World.cell?, h1]

/-- WHAT THE WALK IS TOLD OF THE SLICE THAT CAME IN. -/
def ArgAny (w : World) (a : Option Addr) (n : Nat) (I : Nat → Inp) : Prop :=
  n = 0 ∨ ∃ b off, a = some ⟨b, off, none⟩ ∧ b < w.heap.size ∧ ArgRow w b off n I

end Go.Proofs.YbulkgemgFmt
