/-
  9051B, fifth text: the walk of zzs9051bbuild.
-/
import Derived.Test.YbulkgekqFmtWalkD
import Derived.OpenShut
namespace Go.Proofs.YbulkgekqFmt
open Go.RowKit Go.Extern.Stop Go.Stop Go.Extern
set_option linter.unusedSimpArgs false
set_option linter.unusedVariables false

/-- One drawn token, as plain data. -/
structure Inp where
  kind : Int
  text : ByteArray
  value : ByteArray
  start : Int
  fin : Int

/-- what the argument's row holds. -/
def ArgRow (w : World) (b off n : Nat) (I : Nat → Inp) : Prop :=
  ∀ i, i < n → w.cell? ⟨b, off + i * 5, none⟩ = some (.int .u8 (I i).kind) ∧ w.cell? ⟨b, off + i * 5 + 1, none⟩ = some (.string (I i).text) ∧ w.cell? ⟨b, off + i * 5 + 2, none⟩ = some (.string (I i).value) ∧
    w.cell? ⟨b, off + i * 5 + 3, none⟩ = some (.int .i64 (I i).start) ∧ w.cell? ⟨b, off + i * 5 + 4, none⟩ = some (.int .i64 (I i).fin) ∧ 0 ≤ (I i).kind ∧ (I i).kind ≤ 255

def kindOf (k : Int) : ByteArray :=
  if k = 0 ∨ k = 9 then { data := #[105, 100, 101, 110, 116, 105, 102, 105, 101, 114] } else if k = 1 then { data := #[113, 117, 111, 116, 101, 100, 32, 105, 100, 101, 110, 116, 105, 102, 105, 101, 114] }
  else if k = 2 then { data := #[115, 116, 114, 105, 110, 103] } else if k = 3 then { data := #[110, 117, 109, 98, 101, 114] } else if k = 4 then { data := #[112, 97, 114, 97, 109, 101, 116, 101, 114] }
  else if k = 5 ∨ k = 8 then { data := #[111, 112, 101, 114, 97, 116, 111, 114] } else if k = 6 then { data := #[109, 101, 116, 97, 45, 99, 111, 109, 109, 97, 110, 100] } else { data := #[101, 110, 100, 32, 111, 102, 32, 105, 110, 112, 117, 116] }
def tokOf (x : Inp) : Tok := ⟨kindOf (x.kind % 10), if x.kind % 10 = 8 then { data := #[46] } else x.text, x.value, x.start, x.fin⟩

/-- the own row B of n tokens, whose first k are T's. -/
def Built (w : World) (B n k : Nat) (T : Nat → Tok) : Prop :=
  ∃ cur : Array Value, w.heap[B]? = some (.cells cur 34 (0, 0)) ∧ cur.size = n * 5 ∧
    ∀ i, i < k → cur[i * 5]? = some (.string (T i).kind) ∧ cur[i * 5 + 1]? = some (.string (T i).text) ∧ cur[i * 5 + 2]? = some (.string (T i).value) ∧ cur[i * 5 + 3]? = some (.int .i64 (T i).start) ∧ cur[i * 5 + 4]? = some (.int .i64 (T i).fin)

theorem cell_of_cur {w : World} {B : Nat} {cur : Array Value} {e : TypeId} (h : w.heap[B]? = some (.cells cur e (0, 0))) (j : Nat) : w.cell? ⟨B, j, none⟩ = cur[j]? := by
  simp [World.cell?, h]
theorem free_of_cur {w : World} {B : Nat} {cur : Array Value} {e : TypeId} (h : w.heap[B]? = some (.cells cur e (0, 0))) (j : Nat) : w.frozen? ⟨B, j, none⟩ = false := by
  simp [World.frozen?, h]

theorem Built.row {w : World} {B n : Nat} {T : Nat → Tok} (h : Built w B n n T) : Row w B n T := by
  obtain ⟨cur, h1, h2, h3⟩ := h
  intro i hi
  simp only [cell_of_cur h1]
  exact h3 i hi

theorem heap_setCell_at {w : World} {B : Nat} {cur : Array Value} {e : TypeId} (h : w.heap[B]? = some (.cells cur e (0, 0))) (j : Nat) (u : Value) :
    (w.setCell ⟨B, j, none⟩ u).heap[B]? = some (.cells (cur.setIfInBounds j u) e (0, 0)) := by
  simp [World.setCell, Array.getElem?_modify, h]

theorem Built.next {w : World} {B n k : Nat} {T : Nat → Tok} (h : Built w B n k T) (hk : k < n) :
    Built (((((w.setCell ⟨B, k * 5, none⟩ (.string (T k).kind)).setCell ⟨B, k * 5 + 1, none⟩ (.string (T k).text)).setCell ⟨B, k * 5 + 2, none⟩ (.string (T k).value)).setCell ⟨B, k * 5 + 3, none⟩ (.int .i64 (T k).start)).setCell ⟨B, k * 5 + 4, none⟩ (.int .i64 (T k).fin)) B n (k + 1) T := by
  obtain ⟨cur, h1, h2, h3⟩ := h
  refine ⟨_, heap_setCell_at (heap_setCell_at (heap_setCell_at (heap_setCell_at (heap_setCell_at h1 _ _) _ _) _ _) _ _) _ _, by simp [h2], ?_⟩
  intro i hi
  by_cases he : i = k
  · subst he
    simp [Array.getElem?_setIfInBounds]
    omega
  · obtain ⟨q0, q1, q2, q3, q4⟩ := h3 i (by omega)
    simp only [Array.getElem?_setIfInBounds]
    have e1 : i < k := by omega
    refine ⟨?_, ?_, ?_, ?_, ?_⟩
    all_goals
      repeat rw [if_neg (by omega)]
      assumption

theorem info34 : (Ybaf.prog.info? 34).map (fun i => (i.zero, i.size, i.bytes)) = some (some (.agg #[.string ⟨#[]⟩, .string ⟨#[]⟩, .string ⟨#[]⟩, .int .i64 0, .int .i64 0]), 5, 64) := by kernel_rfl

theorem nil_no (W : World) (a : Addr) (n c : Nat) : (binOp .eql 22 (.slice (some a) n c) (.slice none 0 0)).run Ybaf.prog W = .ok (.bool false) W := by kernel_rfl
theorem nil_yes (W : World) : (binOp .eql 22 (.slice none 0 0) (.slice none 0 0)).run Ybaf.prog W = .ok (.bool true) W := by kernel_rfl
attribute [local go_sem] nil_no nil_yes

theorem made_built {w w' : World} {n : Nat} {xs : List Value} {T : Nat → Tok} (h : w'.ownsRow w.heap.size 34 5 (.slice (some ⟨w.heap.size, 0, none⟩) n n) n xs) : Built w' w.heap.size n 0 T := by
  obtain ⟨h1, h2⟩ := h
  rcases h2 with ⟨h2, _⟩ | ⟨g, cap, cur, hv, _, hh, _, _, hs, _⟩
  · cases h2
  · simp at hv
    obtain ⟨rfl, rfl⟩ := hv
    exact ⟨cur, hh, hs, fun i hi => by omega⟩

theorem Built.below {w w' : World} {B n k : Nat} {T : Nat → Tok} (h : Built w B n k T) (hb : w'.heap[B]? = w.heap[B]?) : Built w' B n k T := by
  obtain ⟨cur, h1, h2, h3⟩ := h
  exact ⟨cur, hb.trans h1, h2, h3⟩

theorem Built.next' {w : World} {B n k : Nat} {T : Nat → Tok} (h : Built w B n k T) (hk : k < n) {kd tx vl : ByteArray} {st fn : Int} (e : T k = ⟨kd, tx, vl, st, fn⟩) (o : Obj) (hB : B < w.heap.size) :
    Built ((((((w.setCell ⟨B, k * 5, none⟩ (.string kd)).setCell ⟨B, k * 5 + 1, none⟩ (.string tx)).setCell ⟨B, k * 5 + 2, none⟩ (.string vl)).setCell ⟨B, k * 5 + 3, none⟩ (.int .i64 st)).setCell ⟨B, k * 5 + 4, none⟩ (.int .i64 fn)).alloc o) B n (k + 1) T := by
  have := h.next hk
  rw [e] at this
  exact this.below (Below.heap_alloc _ _ _ (by simpa [World.setCell] using hB))

set_option maxHeartbeats 4000000 in
theorem build_some (b off n cap : Nat) (I : Nat → Inp) (w : World) (hn : n ≤ 1048576) (hb : b < w.heap.size) (hrow : ArgRow w b off n I) :
    Calls Ybaf.prog 4 #[.slice (some ⟨b, off, none⟩) n cap] w fun e w' => e = .returned (.slice (some ⟨w.heap.size, 0, none⟩) n n) ∧ w.heap.size < w'.heap.size ∧ Row w' w.heap.size n (fun i => tokOf (I i)) ∧ w.grownBy w' none := by
  obtain ⟨i0, hi, hz0, hz1, hz2⟩ := info_parts info34
  go_enter Ybaf.func4, Ybaf.ntmps4
  go_wp2_with (at_make; refine wpList_make_full _ rfl _ _ 23 rfl w.heap.size 34 i0 _ 5 Ybaf.underlying23 hi hz0 hz1 _ _ _ _ n rfl rfl rfl rfl ?b2 ?b3 (Nat.le_refl _) ?_)
  case b2 => rw [hz2]; omega
  case b3 => unfold maxLen; omega
  intro w0 hown0 hgrow0
  have hB0 := keep (made_built (T := fun i => tokOf (I i)) hown0)
  have hw0 := hown0.lt w.heap.size rfl
  clear hown0
  go_wp2
  go_loopw [4] (fun i wr => ∃ k : Nat, k ≤ n ∧ i = .int .i64 k ∧ Built wr w.heap.size n k (fun i => tokOf (I i)) ∧ w.heap.size < wr.heap.size ∧ w.grownBy wr none) (fun i _ => n - (intOf i).toNat)
  case atStart => exact ⟨0, Nat.zero_le _, rfl, hB0.out, hw0.2, hgrow0⟩
  case round =>
    obtain ⟨k, hk, rfl, hbu, hsz, hgr⟩ := hrel
    have HB := keep hbu
    by_cases hlt : k < n
    · obtain ⟨a0, a1, a2, a3, a4, k0, k1⟩ := hrow k hlt
      have hbl : b < wr.heap.size := by omega
      have g := hgr.block b hb (by simp)
      have c0 : wr.cell? ⟨b, off + k * 5, none⟩ = _ := (World.cell?_of_block (w := w) g).trans a0
      have c1 : wr.cell? ⟨b, off + k * 5 + 1, none⟩ = _ := (World.cell?_of_block (w := w) g).trans a1
      have c2 : wr.cell? ⟨b, off + k * 5 + 2, none⟩ = _ := (World.cell?_of_block (w := w) g).trans a2
      have c3 : wr.cell? ⟨b, off + k * 5 + 3, none⟩ = _ := (World.cell?_of_block (w := w) g).trans a3
      have c4 : wr.cell? ⟨b, off + k * 5 + 4, none⟩ = _ := (World.cell?_of_block (w := w) g).trans a4
      obtain ⟨cur, h1, h2, h3⟩ := hbu
      have hfz := free_of_cur h1
      have z : ∀ c, c < 5 → ∃ u, wr.cell? ⟨w.heap.size, k * 5 + c, none⟩ = some u := fun c hc => by
        rw [cell_of_cur h1]; exact ⟨_, Array.getElem?_eq_getElem (by omega)⟩
      obtain ⟨u0, z0⟩ := z 0 (by omega)
      obtain ⟨u1, z1⟩ := z 1 (by omega)
      obtain ⟨u2, z2⟩ := z 2 (by omega)
      obtain ⟨u3, z3⟩ := z 3 (by omega)
      obtain ⟨u4, z4⟩ := z 4 (by omega)
      rw [Nat.add_zero] at z0
      clear h1 h2 h3 z a0 a1 a2 a3 a4 g hrow hgrow0
      have hkk : (I k).kind % 10 = 0 ∨ (I k).kind % 10 = 1 ∨ (I k).kind % 10 = 2 ∨ (I k).kind % 10 = 3 ∨ (I k).kind % 10 = 4 ∨ (I k).kind % 10 = 5 ∨ (I k).kind % 10 = 6 ∨ (I k).kind % 10 = 7 ∨ (I k).kind % 10 = 8 ∨ (I k).kind % 10 = 9 := by omega
      rcases hkk with hkk | hkk | hkk | hkk | hkk | hkk | hkk | hkk | hkk | hkk
      all_goals
        go_wp2
        go_roundw
        case rel =>
          refine ⟨k + 1, by omega, by go_num, HB.out.next' hlt (by simp [tokOf, kindOf, hkk]) _ hsz, by simp [World.setCell]; omega, ?_⟩
          repeat (with_reducible first | exact hgr | refine grown_setCell ?_ (by exact Or.inl (by simp)) _ | refine grown_alloc ?_ _)
        case measure => simp [intOf]; omega
    · obtain rfl : k = n := by omega
      go_wp2
      go_ret
      exact ⟨rfl, hsz, HB.out.row, hgr⟩

theorem build_nil (w : World) :
    Calls Ybaf.prog 4 #[.slice none 0 0] w fun e w' => e = .returned (.slice none 0 0) ∧ w.grownBy w' none := by
  go_enter Ybaf.func4, Ybaf.ntmps4
  go_wp2
  go_ret
  exact ⟨rfl, World.grownBy.refl _ _⟩

set_option maxHeartbeats 1000000 in
theorem build_empty (x : Addr) (cap : Nat) (w : World) :
    Calls Ybaf.prog 4 #[.slice (some x) 0 cap] w fun e w' => e = .returned (.slice (some ⟨w.heap.size, 0, none⟩) 0 0) ∧ w.grownBy w' none := by
  obtain ⟨i0, hi, hz0, hz1, hz2⟩ := info_parts info34
  go_enter Ybaf.func4, Ybaf.ntmps4
  go_wp2_with (at_make; refine wpList_make_full _ rfl _ _ 23 rfl w.heap.size 34 i0 _ 5 Ybaf.underlying23 hi hz0 hz1 _ _ _ _ 0 rfl rfl rfl rfl ?b2 ?b3 (Nat.le_refl _) ?_)
  case b2 => omega
  case b3 => unfold maxLen; omega
  intro w0 hown0 hgrow0
  go_wp2
  go_loop [4] (fun i => i = .int .i64 0) (fun _ => 0)
  case atStart => rfl
  case round =>
    subst hrel
    go_wp2
    go_ret
    exact ⟨rfl, hgrow0⟩

/-- WHAT THE WALK IS TOLD OF THE SLICE THAT CAME IN. -/
def ArgAny (w : World) (a : Option Addr) (len cap : Nat) (I : Nat → Inp) : Prop :=
  (a = none ∧ len = 0 ∧ cap = 0) ∨ (len = 0 ∧ ∃ x, a = some x) ∨ ∃ b off, a = some ⟨b, off, none⟩ ∧ b < w.heap.size ∧ ArgRow w b off len I

theorem ArgAny.grown {w w' : World} {a : Option Addr} {len cap : Nat} {I : Nat → Inp} (h : ArgAny w a len cap I) (hg : w.grownBy w' none) : ArgAny w' a len cap I := by
  rcases h with h | h | ⟨b, off, h1, h2, h3⟩
  · exact Or.inl h
  · exact Or.inr (Or.inl h)
  · refine Or.inr (Or.inr ⟨b, off, h1, Nat.lt_of_lt_of_le h2 hg.size, fun i hi => ?_⟩)
    have e := hg.block b h2 (by simp)
    obtain ⟨a0, a1, a2, a3, a4, k0, k1⟩ := h3 i hi
    exact ⟨(World.cell?_of_block (w := w) e).trans a0, (World.cell?_of_block (w := w) e).trans a1, (World.cell?_of_block (w := w) e).trans a2, (World.cell?_of_block (w := w) e).trans a3, (World.cell?_of_block (w := w) e).trans a4, k0, k1⟩

theorem build_any (a : Option Addr) (n cap : Nat) (I : Nat → Inp) (w : World) (hn : n ≤ 1048576) (h : ArgAny w a n cap I) :
    Calls Ybaf.prog 4 #[.slice a n cap] w fun e w' => (∃ ao g, e = .returned (.slice ao n n) ∧ (0 < n → ao = some ⟨g, 0, none⟩) ∧ (0 < n → w.heap.size ≤ g ∧ g < w'.heap.size) ∧ Row w' g n (fun i => tokOf (I i))) ∧ w.grownBy w' none := by
  rcases h with ⟨rfl, rfl, rfl⟩ | ⟨rfl, x, rfl⟩ | ⟨b, off, rfl, h2, h3⟩
  · exact (build_nil w).mono fun e w' ⟨he, hg⟩ => ⟨⟨none, 0, he, fun h => by omega, fun h => by omega, fun i hi => by omega⟩, hg⟩
  · exact (build_empty x cap w).mono fun e w' ⟨he, hg⟩ => ⟨⟨_, 0, he, fun h => by omega, fun h => by omega, fun i hi => by omega⟩, hg⟩
  · exact (build_some b off n cap I w hn h2 h3).mono fun e w' ⟨he, hz, hr, hg⟩ => ⟨⟨_, w.heap.size, he, fun _ => rfl, fun _ => ⟨Nat.le_refl _, hz⟩, hr⟩, hg⟩

end Go.Proofs.YbulkgekqFmt
