/-
  The proof of 'Rows.LawS9051AWholeSaid' ('namesake.LawS9051AWhole'): the frame is the guide's shell for this function; the walks of RuneStart, zzs9051acont, clipName and the law itself are typed by hand.
-/
import Derived.Test.YbulkgekqRows
import Derived.WalkKit
import Derived.ProofKit
import Derived.OpenShut
import Derived.ShutString
import Derived.BigQuiet
import Derived.Deep.QuietTactic
namespace Go.Proofs.Ybulkgekq.lawS9051AWhole
open Go.ChangeShapes Go.WideShapes Go.ChangeAt Go.RowKit
open Go.ChangeMaps (open_string shut_string)
set_option linter.unusedVariables false      -- a walk need not use every 'w<i>' (that an integer argument fits its kind)

theorem own : ownKnob Yba.prog.godebug = none := by kernel_rfl

/-- the byte 'n' is a continuation byte. -/
def contB (n : Int) : Bool := bits .and .u8 n 192 == 128

theorem start_any (n : Int) (w : World) :
    Calls Yba.prog 6 #[.int .u8 n] w fun e w' => e = .returned (.bool (!contB n)) ∧ w' = w := by
  go_enter Yba.func6, Yba.ntmps6
  go_wp2
  go_ret
  exact ⟨rfl, rfl⟩
theorem cont_any (n : Int) (w : World) :
    Calls Yba.prog 5 #[.int .u8 n] w fun e w' => e = .returned (.bool (contB n)) ∧ w' = w := by
  go_enter Yba.func5, Yba.ntmps5
  go_wp2
  go_ret
  exact ⟨rfl, rfl⟩

/-- the last boundary at or below k. -/
def clipTo (s : ByteArray) : Nat → Nat
  | 0 => 0
  | k + 1 => if h : k + 1 < s.size then (if contB (s[k + 1].toNat : Int) then clipTo s k else k + 1) else 0

theorem clipTo_le (s : ByteArray) : ∀ k, clipTo s k ≤ k
  | 0 => by simp [clipTo]
  | k + 1 => by
    have := clipTo_le s k
    simp only [clipTo]; split
    · split <;> omega
    · omega
theorem clipTo_yes (s : ByteArray) (k : Nat) (h : k + 1 < s.size) (hb : contB (s[k + 1].toNat : Int) = true) : clipTo s (k + 1) = clipTo s k := by
  simp [clipTo, h, hb]
theorem clipTo_no (s : ByteArray) (k : Nat) (h : k + 1 < s.size) (hb : contB (s[k + 1].toNat : Int) = false) : clipTo s (k + 1) = k + 1 := by
  simp [clipTo, h, hb]

set_option maxHeartbeats 400000 in
theorem clip_any (s : ByteArray) (n : Nat) (hs : s.size ≤ maxLen) (hn : n < s.size) (w : World) :
    Calls Yba.prog 4 #[.string s, .int .i64 n] w fun e w' => e = .returned (.string (s.extract 0 (clipTo s n))) ∧ w' = w := by
  unfold maxLen at hs
  have hle : ¬ s.size ≤ n := by omega
  go_enter Yba.func4, Yba.ntmps4
  go_wp2
  go_loop [1] (fun i => ∃ k : Nat, k ≤ n ∧ i = .int .i64 k ∧ clipTo s k = clipTo s n) (fun i => (intOf i).toNat)
  case atStart => exact ⟨n, Nat.le_refl _, rfl, rfl⟩
  case round =>
    obtain ⟨k, hk, rfl, hc⟩ := hrel
    have HC : Hid (clipTo s k = clipTo s n) := hc
    clear hc
    cases k with
    | zero => 
      go_wp2
      go_ret
      exact ⟨by rw [← HC.out]; simp [clipTo], rfl⟩
    | succ k => 
      have hlt : k + 1 < s.size := by omega
      by_cases hb : contB (s[k + 1].toNat : Int) = true
      · have HC' : Hid (clipTo s k = clipTo s n) := (clipTo_yes s k hlt hb).symm.trans HC.out
        go_wp2_with (go_at_call 6; refine (start_any _ _).mono ?_; rintro e w ⟨rfl, rfl⟩)
        go_round
        case rel => exact ⟨k, by omega, by go_num, HC'.out⟩
        case measure => simp [intOf]
      · have hb' : contB (s[k + 1].toNat : Int) = false := by simpa using hb
        have HC' : Hid (k + 1 = clipTo s n) := (clipTo_no s k hlt hb').symm.trans HC.out
        go_wp2_with (go_at_call 6; refine (start_any _ _).mono ?_; rintro e w ⟨rfl, rfl⟩)
        go_ret
        exact ⟨by rw [← HC'.out]; simp , rfl⟩

theorem clip_whole (s : ByteArray) (n : Nat) (hn : s.size ≤ n) (w : World) :
    Calls Yba.prog 4 #[.string s, .int .i64 n] w fun e w' => e = .returned (.string s) ∧ w' = w := by
  go_enter Yba.func4, Yba.ntmps4
  go_wp2
  go_ret
  exact ⟨rfl, rfl⟩
  
/-! ### STEP 1: THE WALK: the Go text returns true. 'Grown w w'': the world has at most new blocks (Derived/RowKit3.lean). Part the cases AHEAD of 'go_enter' where a test parts the walk; take each callee by a contract of your own. -/
theorem walk (a0 : ByteArray) (a1 : Int) (w0 : a0.size ≤ maxLen) (w1 : (Lit.int .i64 a1).wf = true) (w : World) :
    Calls Yba.prog 3 #[.string a0, .int .i64 a1] w fun e w' => e = .returned (.bool true) ∧ Grown w w' := by
  by_cases hbig : (1048576 : Int) < a0.size
  · go_enter Yba.func3, Yba.ntmps3
    go_wp2
    go_ret
    exact ⟨rfl, Grown.refl _⟩
  by_cases hneg : a1 < 0
  · go_enter Yba.func3, Yba.ntmps3
    go_wp2
    go_ret
    exact ⟨rfl, Grown.refl _⟩
  obtain ⟨n, rfl⟩ := Int.eq_ofNat_of_zero_le (Int.not_lt.1 hneg)
  by_cases hle : a0.size ≤ n
  · go_enter Yba.func3, Yba.ntmps3
    go_wp2_with (go_at_call 4; refine (clip_whole _ _ hle _).mono ?_; rintro e w ⟨rfl, rfl⟩)
    go_ret
    exact ⟨by simp, Grown.refl _⟩
  have hn : n < a0.size := by omega
  have hcl := clipTo_le a0 n
  go_enter Yba.func3, Yba.ntmps3
  go_wp2_with (go_at_call 4; refine (clip_any _ _ w0 hn _).mono ?_; rintro e w ⟨rfl, rfl⟩)
  go_loop [6, 7] (fun b i => ∃ k : Nat, k ≤ n ∧ i = .int .i64 (k + 1 : Nat) ∧ b = .int .i64 (clipTo a0 k)) (fun _ i => n + 1 - (intOf i).toNat)
  case atStart => exact ⟨0, by omega, rfl, rfl⟩
  case round =>
    obtain ⟨k, hk, rfl, rfl⟩ := hrel
    by_cases hlt : k < n
    · have hlt' : k + 1 < a0.size := by omega
      by_cases hb : contB (a0[k + 1].toNat : Int) = true
      · have HC' : Hid (clipTo a0 (k + 1) = clipTo a0 k) := clipTo_yes a0 k hlt' hb
        go_wp2_with (go_at_call 5; refine (cont_any _ _).mono ?_; rintro e w ⟨rfl, rfl⟩)
        go_round
        case rel => exact ⟨k + 1, by omega, by go_num, by rw [HC'.out]⟩
        case measure => simp [intOf]; omega
      · have hb' : contB (a0[k + 1].toNat : Int) = false := by simpa using hb
        have HC' : Hid (clipTo a0 (k + 1) = k + 1) := clipTo_no a0 k hlt' hb'
        go_wp2_with (go_at_call 5; refine (cont_any _ _).mono ?_; rintro e w ⟨rfl, rfl⟩)
        go_round
        case rel => exact ⟨k + 1, by omega, by go_num, by rw [HC'.out]; go_num⟩
        case measure => simp [intOf]; omega
    · have hkn : k = n := by omega
      subst hkn
      have hsz : (a0.extract 0 (clipTo a0 k)).size = clipTo a0 k := by simp; omega
      go_wp2_with fail
      go_loopw [8] (fun i w' => Grown w w' ∧ ∃ j : Nat, j ≤ clipTo a0 k ∧ i = .int .i64 j) (fun i _ => clipTo a0 k - (intOf i).toNat)
      case atStart => exact ⟨Grown.refl _, 0, Nat.zero_le _, rfl⟩
      case round =>
        obtain ⟨hg, j, hj, rfl⟩ := hrel
        by_cases hlt2 : j < clipTo a0 k
        · have hj1 : j < a0.size := by omega
          have hj2 : j < (a0.extract 0 (clipTo a0 k)).size := by omega
          have hx : (a0.extract 0 (clipTo a0 k))[j] = a0[j] := by rw [ByteArray.getElem_extract]; simp
          go_wp2
          go_quiet (fail)
          go_wp2
          go_roundw
          case rel => exact ⟨hg, j + 1, by omega, by go_num⟩
          case measure => simp [intOf]; omega
        · go_wp2
          go_ret
          exact ⟨rfl, hg⟩


/-! ### THE ROW's STEP: WRITTEN OUT: LEAVE IT -/
set_option maxRecDepth 100000 in
theorem lifted (os : Os) (started : os.Started) (H : Type) (enc : TypeId × Value → H) :
    ReturnsInHanded {} Yba.checked os 3 .any (Rows.lawS9051AWholeSpec.pre6 enc Yba.prog Yba.f3 Rows.lawS9051AWholeRow.domain false) (Rows.lawS9051AWholeSpec.post enc Yba.prog Yba.f3 false true false false) := by
  refine returnsInHanded_of_change (C := Yba.checked) own started (by kernel_rfl) Yba.func3
    (ChangeSpec.witness6 (enc := enc) (C := Yba.checked) false ⟨#[], #[.string ByteArray.empty, .int .i64 0], []⟩ 8 (by kernel_rfl) (by kernel_rfl) (by kernel_rfl) (by kernel_rfl)) ?_
  intro W base args ds gs before hval0 hW hcnd _
  have hval : ∀ (j : Nat) t v, Yba.f3.params[j]? = some t → args[j]? = some v → Value.okWide Yba.prog W .any base t v := hval0
  have hW' := hW
  obtain ⟨p, q, hA0, hV, rfl, hfz, hnd⟩ := hW
  have hA : DataW.TrodAll enc Yba.prog W 0 (fun _ => true) true Yba.f3.params.toList args.toList ds p := hA0
  rw [Yba.params3] at hA hval
  obtain ⟨v0, vs0, d0, ds0, p0, q0, hargs, rfl, rfl, h0, r0⟩ := trodAll_cons hA
  obtain ⟨v1, vs1, d1, ds1, p1, q1, rfl, rfl, rfl, h1, r1⟩ := trodAll_cons r0
  obtain ⟨rfl, rfl, rfl⟩ := trodAll_nil r1
  obtain rfl : args = #[v0, v1] := by cases args; simp_all
  obtain ⟨rfl, rfl⟩ := trodVars_none hV
  obtain ⟨a0, rfl, rfl, rfl, w0⟩ := open_string Yba.underlying9 (hval 0 9 v0 rfl rfl) h0
  obtain ⟨a1, rfl, rfl, rfl, w1⟩ := open_int Yba.underlying3 (hval 1 3 v1 rfl rfl) h1
  clear hA0 hval0
  simp only [List.append_nil] at hW'
  refine (walk a0 a1 w0 w1 W).mono fun e W' ⟨he, hg⟩ => ?_
  subst he
  exact ⟨_, rfl, post_of_same (pa := []) (pv := []) hW' (fun _ _ _ => (trodAll_cons_mk (shut_bool Yba.underlying4 _) trodAll_mk0)) (fun sp _ => (trodAll_cons_mk (shut_string Yba.underlying9 w0) (trodAll_cons_mk (shut_int Yba.underlying3 w1) trodAll_mk0))) (fun _ _ => rfl) rfl
    (hg.frame _) hg.2.1 (ok_one (by kernel_rfl) rfl (okWide_bool_mk Yba.underlying4 _))⟩

theorem over : Rows.lawS9051AWholeRow.holds Yba.pinned (OpenSpec.ofChange Rows.lawS9051AWholeSpec) :=
  OpenClaim.holds_of_wide 3 Yba.f3 rfl rfl rfl rfl rfl rfl rfl ⟨rfl, rfl, rfl, rfl, rfl⟩ rfl rfl rfl rfl rfl (by kernel_rfl) Yba.func3 (by kernel_rfl)
    (of_decide_eq_true (by kernel_rfl)) (by unfold Func.isWrapper; first | (rw [if_pos (by decide +kernel)]; kernel_rfl) | (rw [if_neg (by decide +kernel)]; exact ⟨rfl, rfl⟩))
    (fun os started H enc _ => lifted os started H enc)

/-- ████ THE STATEMENT ████ -/
theorem proved : Rows.LawS9051AWholeSaid :=
  over
end Go.Proofs.Ybulkgekq.lawS9051AWhole
