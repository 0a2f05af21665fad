import Derived.Test.YbulkgeleFmtRows
import Derived.WalkKit
import Derived.WalkSpells
import Derived.BigQuiet
import Derived.Deep.QuietTactic
import Derived.Stop.CallBack
import Derived.Stop.IfaceNil
namespace Go.Proofs.YbulkgeleFmt
open Go.RowKit Go.Extern.Stop Go.Stop Go.Extern

theorem call11 (args : Array Value) (w : World) : (callFunc 11 args).run Ybaf.prog w = ((FmtStop.errorf #[9, 31] #[24] args).run Ybaf.prog w).andThen fun v w' => .ok (.value v) w' :=
  run_callFunc_extern Ybaf.func11 (by kernel_rfl) (by kernel_rfl) (by kernel_rfl) (by kernel_rfl) args w
theorem guardF (name : String) (w : World) : (FmtStop.guard name).run Ybaf.prog w = .ok () w := by kernel_rfl
/-- the format of checkScheme's error. -/
def form : List UInt8 := [37, 113, 44, 32, 98, 101, 102, 111, 114, 101, 32, 116, 104, 101, 32, 102, 105, 114, 115, 116, 32, 99, 111, 108, 111, 110, 44, 32, 105, 115, 32, 110, 111, 32, 115, 99, 104, 101, 109, 101, 44, 32, 97, 110, 100, 32, 97, 32, 114, 101, 108, 97] ++ [116, 105, 118, 101, 32, 114, 101, 102, 101, 114, 101, 110, 99, 101, 32, 104, 111, 108, 100, 115, 32, 110, 111, 32, 99, 111, 108, 111, 110, 32, 98, 101, 102, 111, 114, 101, 32, 105, 116, 115, 32, 102, 105, 114, 115, 116, 32, 115, 108, 97, 115, 104]
theorem fmt0 : FmtStop.printed? ⟨form.toArray⟩ 1 = some [(0, 113, false)] := by kernel_rfl
theorem fmt0r (w : World) : (FmtDoors.printed ⟨form.toArray⟩ 1).run Ybaf.prog w = .ok [(0, 113, false)] w := by kernel_rfl
def shape9 : List UInt8 := [12, 6, 0, 0, 0, 0, 0, 0, 0, 115, 116, 114, 105, 110, 103]
theorem op9_113 (name : String) (x : ByteArray) (w : World) : (FmtStop.operand name false 113 false (.iface 9 (.string x))).run Ybaf.prog w = .ok (shape9, FmtStop.pack x.data.toList) w := by kernel_rfl
theorem op9_113w (name : String) (x : ByteArray) (w : World) : (FmtStop.operand name true 113 false (.iface 9 (.string x))).run Ybaf.prog w = .ok (shape9, FmtStop.pack x.data.toList) w := by kernel_rfl
theorem ptr33 (w : World) : (FmtStop.ptrTo "errors.errorString").run Ybaf.prog w = .ok 33 w := by kernel_rfl
theorem elem33 (w : World) : (elemOf 33).run Ybaf.prog w = .ok 35 w := by kernel_rfl
theorem isError33 (w : World) : (FmtDoors.textMethod 33 "Error").run Ybaf.prog w = .ok true w := by kernel_rfl
attribute [local go_sem] call11 guardF fmt0 fmt0r op9_113 op9_113w ptr33 elem33 isError33

theorem errorf_any (F : Interp) (s : ByteArray) (w : World) (hF : F.answers w.tape) (b : Nat) (hc : w.cell? ⟨b, 0, none⟩ = some (.iface 9 (.string s))) :
    Calls Ybaf.prog 9 #[.string ⟨form.toArray⟩, .slice (some ⟨b, 0, none⟩) 1 1] w fun e w' => (∃ t v, e = .returned (.iface t v)) ∧ Below w.heap.size w w' := by
  have hF' := answers_open hF
  go_enter Ybaf.func9, Ybaf.ntmps9
  go_wp2
  go_ret
  exact ⟨⟨_, _, rfl⟩, ((Below.refl _ _).alloc (Nat.le_refl _) _).drew⟩

/-- an ASCII letter. -/
def letB (n : Int) : Bool := (decide (97 ≤ n) && decide (n ≤ 122)) || (decide (65 ≤ n) && decide (n ≤ 90))
def digB (n : Int) : Bool := decide (48 ≤ n) && decide (n ≤ 57)
theorem letB_iff (n : Int) : letB n = true ↔ ((97 ≤ n ∧ n ≤ 122) ∨ (65 ≤ n ∧ n ≤ 90)) := by simp [letB]
theorem digB_iff (n : Int) : digB n = true ↔ (48 ≤ n ∧ n ≤ 57) := by simp [digB]

theorem let7 (n : Int) (w : World) :
    Calls Ybaf.prog 7 #[.int .u8 n] w fun e w' => e = .returned (.bool (letB n)) ∧ w' = w := by
  by_cases h : letB n = true
  · rw [h]; rw [letB_iff] at h
    go_enter Ybaf.func7, Ybaf.ntmps7
    go_wp2
    all_goals (first | omega | (go_ret; refine ⟨?_, rfl⟩; first | rfl | (simp; done) | (simp; omega)))
  · rw [Bool.not_eq_true] at h
    rw [h]
    have h' : ¬ ((97 ≤ n ∧ n ≤ 122) ∨ (65 ≤ n ∧ n ≤ 90)) := by rw [← letB_iff, h]; simp
    go_enter Ybaf.func7, Ybaf.ntmps7
    go_wp2
    all_goals (first | omega | (go_ret; refine ⟨?_, rfl⟩; first | rfl | (simp; done) | (simp; omega)))
theorem let10 (n : Int) (w : World) :
    Calls Ybaf.prog 10 #[.int .u8 n] w fun e w' => e = .returned (.bool (letB n)) ∧ w' = w := by
  by_cases h : letB n = true
  · rw [h]; rw [letB_iff] at h
    go_enter Ybaf.func10, Ybaf.ntmps10
    go_wp2
    all_goals (first | omega | (go_ret; refine ⟨?_, rfl⟩; first | rfl | (simp; done) | (simp; omega)))
  · rw [Bool.not_eq_true] at h
    rw [h]
    have h' : ¬ ((97 ≤ n ∧ n ≤ 122) ∨ (65 ≤ n ∧ n ≤ 90)) := by rw [← letB_iff, h]; simp
    go_enter Ybaf.func10, Ybaf.ntmps10
    go_wp2
    all_goals (first | omega | (go_ret; refine ⟨?_, rfl⟩; first | rfl | (simp; done) | (simp; omega)))
theorem dig8 (n : Int) (w : World) :
    Calls Ybaf.prog 8 #[.int .u8 n] w fun e w' => e = .returned (.bool (digB n)) ∧ w' = w := by
  by_cases h : digB n = true
  · rw [h]; rw [digB_iff] at h
    go_enter Ybaf.func8, Ybaf.ntmps8
    go_wp2
    all_goals (first | omega | (go_ret; refine ⟨?_, rfl⟩; first | rfl | (simp; done) | (simp; omega)))
  · rw [Bool.not_eq_true] at h
    rw [h]
    have h' : ¬ (48 ≤ n ∧ n ≤ 57) := by rw [← digB_iff, h]; simp
    go_enter Ybaf.func8, Ybaf.ntmps8
    go_wp2
    all_goals (first | omega | (go_ret; refine ⟨?_, rfl⟩; first | rfl | (simp; done) | (simp; omega)))

/-- what may stand behind the first byte. -/
def restB (n : Int) : Bool := letB n || digB n || n == 43 || n == 45 || n == 46
theorem restB_yes {n : Int} (h : letB n = true ∨ (48 ≤ n ∧ n ≤ 57) ∨ n = 43 ∨ n = 45 ∨ n = 46) : restB n = true := by
  unfold restB digB
  rcases h with h | h | h | h | h <;> simp [h]
theorem restB_no {n : Int} (h : ¬ letB n = true) (h' : ¬ (48 ≤ n ∧ n ≤ 57)) (h1 : n ≠ 43) (h2 : n ≠ 45) (h3 : n ≠ 46) : restB n = false := by
  have hd : digB n = false := by rw [Bool.eq_false_iff, Ne, digB_iff]; exact h'
  have hl : letB n = false := by simpa using h
  simp [restB, hd, hl, h1, h2, h3]
/-- byte k may stand at place k. -/
def okAt (s : ByteArray) (k : Nat) : Bool := if h : k < s.size then (if k = 0 then letB (s[k].toNat : Int) else restB (s[k].toNat : Int)) else false
/-- the string is not empty and its first k bytes may stand. -/
def validTo (s : ByteArray) : Nat → Bool
  | 0 => decide (s.size ≠ 0)
  | k + 1 => validTo s k && okAt s k
theorem validTo_mono (s : ByteArray) (k : Nat) : ∀ j, validTo s k = false → validTo s (k + j) = false
  | 0, h => h
  | j + 1, h => by
    have := validTo_mono s k j h
    rw [← Nat.add_assoc]; simp [validTo, this]
theorem validTo_false (s : ByteArray) {k n : Nat} (hk : k ≤ n) (h : validTo s k = false) : validTo s n = false := by
  obtain ⟨j, rfl⟩ := Nat.exists_eq_add_of_le hk
  exact validTo_mono s k j h
/-- the string is a scheme. -/
def schemeB (s : ByteArray) : Bool := validTo s s.size

set_option maxHeartbeats 1000000 in
theorem model_any (s : ByteArray) (w : World) (hs : s.size ≤ maxLen) :
    Calls Ybaf.prog 5 #[.string s] w fun e w' => e = .returned (.bool (schemeB s)) ∧ w' = w := by
  unfold maxLen at hs
  by_cases h0 : s.size = 0
  · have hb : schemeB s = false := by simp [schemeB, h0, validTo]
    rw [hb]
    go_enter Ybaf.func5, Ybaf.ntmps5
    go_wp2
    go_ret
    exact ⟨rfl, rfl⟩
  have h1 : 0 < s.size := by omega
  by_cases hl : letB (s[0].toNat : Int) = true
  · have hv : validTo s 1 = true := by simp [validTo, okAt, h1, hl, h0]
    have HV := (show Hid (validTo s 1 = true) from hv)
    clear hv
    have h0' : ((s.size : Int) == 0) = false := beq_eq_false_iff_ne.2 (by omega)
    go_enter Ybaf.func5, Ybaf.ntmps5
    go_wp2_with (go_at_call 10; refine (let10 _ _).mono ?_; rintro e w ⟨rfl, rfl⟩)
    go_loop [3] (fun i => ∃ k : Nat, 1 ≤ k ∧ k ≤ s.size ∧ i = .int .i64 k ∧ validTo s k = true) (fun i => s.size - (intOf i).toNat)
    case atStart => exact ⟨1, by omega, by omega, rfl, HV.out⟩
    case round =>
      clear HV
      obtain ⟨k, hk1, hk, rfl, hv⟩ := hrel
      by_cases hlt : k < s.size
      · have HN : Hid (validTo s (k + 1) = restB (s[k].toNat : Int)) := by
          show validTo s (k + 1) = _
          have : k ≠ 0 := by omega
          simp [validTo, hv, okAt, hlt, this]
        clear hv
        go_wp2_with (go_at_call 10; refine (let10 _ _).mono ?_; rintro e w ⟨rfl, rfl⟩)
        all_goals first
          | (go_round
             case rel =>
               refine ⟨k + 1, by omega, by omega, by go_num, ?_⟩
               rw [HN.out]
               refine restB_yes ?_
               first
                 | exact Or.inl (by assumption)
                 | (right; omega)
                 | (right; simp only [beq_iff_eq] at *; omega)
             case measure => simp [intOf]; omega)
          | (go_ret
             refine ⟨?_, rfl⟩
             have hz : schemeB s = false := by
               refine validTo_false s (k := k + 1) (by omega) ?_
               rw [HN.out]
               simp only [beq_eq_false_iff_ne] at *
               exact restB_no (by assumption) (by omega) (by omega) (by omega) (by omega)
             rw [hz]; rfl)
      · have HE : Hid (schemeB s = true) := by
          show schemeB s = true
          have : k = s.size := by omega
          rw [schemeB, ← this, hv]
        clear hv
        go_wp2
        go_ret
        exact ⟨by rw [HE.out]; rfl, rfl⟩
  · rw [Bool.not_eq_true] at hl
    have hb : schemeB s = false := validTo_false s (k := 1) h1 (by simp [validTo, okAt, h1, hl])
    have h0' : ((s.size : Int) == 0) = false := beq_eq_false_iff_ne.2 (by omega)
    rw [hb]
    clear hb
    go_enter Ybaf.func5, Ybaf.ntmps5
    go_wp2_with (go_at_call 10; refine (let10 _ _).mono ?_; rintro e w ⟨rfl, rfl⟩)
    go_ret
    exact ⟨rfl, rfl⟩
end Go.Proofs.YbulkgeleFmt
