/-
  The proof of 'Rows.LawS9052CWholeSaid' ('grievance.LawS9052CWhole'): the frame is the guide's shell for this function; the walks of errors.New, Public and the law itself are typed by hand.
-/
import Derived.Test.YbulkgeleRows
import Derived.WalkKit
import Derived.ProofKit
import Derived.OpenShut
import Derived.ShutString
import Derived.LaidEql
namespace Go.Proofs.Ybulkgele.lawS9052CWhole
open Go.ChangeShapes Go.WideShapes Go.ChangeAt Go.RowKit
open Go.ChangeMaps (open_string shut_string)
set_option linter.unusedVariables false      -- a walk need not use every 'w<i>' (that an integer argument fits its kind)

theorem own : ownKnob Yba.prog.godebug = none := by kernel_rfl

theorem assert29 (W : World) (v : Value) : (Instr.typeAssert (.iface 29 v) 23 29 true).run Yba.prog W = .ok (.tuple #[v, .bool true]) W := by kernel_rfl
theorem eq34 (W : World) (a : Addr) : (binOp .eql 23 (.iface 34 (.pointer (some a))) (.iface 34 (.pointer (some a)))).run Yba.prog W = .ok (.bool true) W :=
  run_eql_iface_ptr_same W a Yba.underlying23 Yba.underlying34 (i := (Yba.prog.info? 34).get rfl) (j := (Yba.prog.info? 36).get rfl) (by kernel_rfl) (by kernel_rfl) (by kernel_rfl)
theorem eq25 (W : World) (a : Addr) : (binOp .eql 23 (.iface 25 (.pointer (some a))) (.iface 25 (.pointer (some a)))).run Yba.prog W = .ok (.bool true) W :=
  run_eql_iface_ptr_same W a Yba.underlying23 Yba.underlying25 (i := (Yba.prog.info? 25).get rfl) (j := (Yba.prog.info? 27).get rfl) (by kernel_rfl) (by kernel_rfl) (by kernel_rfl)
theorem eq25n (W : World) : (binOp .eql 23 (.iface 25 (.pointer none)) (.iface 25 (.pointer none))).run Yba.prog W = .ok (.bool true) W := by kernel_rfl
attribute [local go_sem] assert29 eq34 eq25 eq25n
theorem new_any (s : ByteArray) (w : World) :
    Calls Yba.prog 4 #[.string s] w fun e w' => e = .returned (.iface 34 (.pointer (some ⟨w.heap.size, 0, none⟩))) ∧ w' = w.alloc (.cells #[.string s] 36) := by
  go_enter Yba.func4, Yba.ntmps4
  go_wp2
  go_ret
  exact ⟨rfl, rfl⟩

theorem pub_nil (n : Int) (w : World) :
    Calls Yba.prog 5 #[.int .i64 n, .nilIface] w fun e w' => e = .returned .nilIface ∧ w' = w := by
  go_enter Yba.func5, Yba.ntmps5
  go_wp2
  go_ret
  exact ⟨rfl, rfl⟩

theorem pub_some (n : Int) (t : TypeId) (v : Value) (w : World) :
    Calls Yba.prog 5 #[.int .i64 n, .iface t v] w fun e w' => e = .returned (.iface 29 (.pointer (some ⟨w.heap.size, 0, none⟩))) ∧ w' = w.alloc (.cells #[.int .i64 n, .iface t v] 32) := by
  go_enter Yba.func5, Yba.ntmps5
  go_wp2
  go_ret
  exact ⟨rfl, rfl⟩

/-! ### STEP 1: THE WALK: the Go text returns true. 'Grown w w'': the world has at most new blocks (Derived/RowKit3.lean). Part the cases AHEAD of 'go_enter' where a test parts the walk; take each callee by a contract of your own. -/
theorem walk (a0 : Int) (a1 : Int) (a2 : ByteArray) (w0 : (Lit.int .i64 a0).wf = true) (w1 : (Lit.int .u8 a1).wf = true) (w2 : a2.size ≤ maxLen) (w : World) :
    Calls Yba.prog 3 #[.int .i64 a0, .int .u8 a1, .string a2] w fun e w' => e = .returned (.bool true) ∧ Grown w w' := by
  have bd := bounds_u8 w1
  have hk : a1 % 4 = 0 ∨ a1 % 4 = 1 ∨ a1 % 4 = 2 ∨ a1 % 4 = 3 := by omega
  rcases hk with hk | hk | hk | hk
  · go_enter Yba.func3, Yba.ntmps3
    go_wp2_with (first | (go_at_call 5; refine (pub_nil _ _).mono ?_; rintro e w ⟨rfl, rfl⟩))
    go_ret
    exact ⟨rfl, by repeat (first | exact Grown.refl _ | apply Grown.drew | apply Grown.alloc)⟩
  · go_enter Yba.func3, Yba.ntmps3
    go_wp2_with (first | (go_at_call 4; refine (new_any _ _).mono ?_; rintro e w ⟨rfl, rfl⟩) | (go_at_call 5; refine (pub_some _ _ _ _).mono ?_; rintro e w ⟨rfl, rfl⟩))
    go_ret
    exact ⟨rfl, by repeat (first | exact Grown.refl _ | apply Grown.drew | apply Grown.alloc)⟩
  · go_enter Yba.func3, Yba.ntmps3
    go_wp2_with (first | (go_at_call 5; refine (pub_some _ _ _ _).mono ?_; rintro e w ⟨rfl, rfl⟩))
    go_ret
    exact ⟨rfl, by repeat (first | exact Grown.refl _ | apply Grown.drew | apply Grown.alloc)⟩
  · go_enter Yba.func3, Yba.ntmps3
    go_wp2_with (first | (go_at_call 5; refine (pub_some _ _ _ _).mono ?_; rintro e w ⟨rfl, rfl⟩))
    go_ret
    exact ⟨rfl, by repeat (first | exact Grown.refl _ | apply Grown.drew | apply Grown.alloc)⟩


/-! ### THE ROW's STEP: WRITTEN OUT: LEAVE IT -/
set_option maxRecDepth 100000 in
theorem lifted (os : Os) (started : os.Started) (H : Type) (enc : TypeId × Value → H) :
    ReturnsInHanded {} Yba.checked os 3 .any (Rows.lawS9052CWholeSpec.pre6 enc Yba.prog Yba.f3 Rows.lawS9052CWholeRow.domain false) (Rows.lawS9052CWholeSpec.post enc Yba.prog Yba.f3 false true false false) := by
  refine returnsInHanded_of_change (C := Yba.checked) own started (by kernel_rfl) Yba.func3
    (ChangeSpec.witness6 (enc := enc) (C := Yba.checked) false ⟨#[], #[.int .i64 0, .int .u8 0, .string ByteArray.empty], []⟩ 8 (by kernel_rfl) (by kernel_rfl) (by kernel_rfl) (by kernel_rfl)) ?_
  intro W base args ds gs before hval0 hW hcnd _
  have hval : ∀ (j : Nat) t v, Yba.f3.params[j]? = some t → args[j]? = some v → Value.okWide Yba.prog W .any base t v := hval0
  have hW' := hW
  obtain ⟨p, q, hA0, hV, rfl, hfz, hnd⟩ := hW
  have hA : DataW.TrodAll enc Yba.prog W 0 (fun _ => true) true Yba.f3.params.toList args.toList ds p := hA0
  rw [Yba.params3] at hA hval
  obtain ⟨v0, vs0, d0, ds0, p0, q0, hargs, rfl, rfl, h0, r0⟩ := trodAll_cons hA
  obtain ⟨v1, vs1, d1, ds1, p1, q1, rfl, rfl, rfl, h1, r1⟩ := trodAll_cons r0
  obtain ⟨v2, vs2, d2, ds2, p2, q2, rfl, rfl, rfl, h2, r2⟩ := trodAll_cons r1
  obtain ⟨rfl, rfl, rfl⟩ := trodAll_nil r2
  obtain rfl : args = #[v0, v1, v2] := by cases args; simp_all
  obtain ⟨rfl, rfl⟩ := trodVars_none hV
  obtain ⟨a0, rfl, rfl, rfl, w0⟩ := open_int Yba.underlying3 (hval 0 3 v0 rfl rfl) h0
  obtain ⟨a1, rfl, rfl, rfl, w1⟩ := open_int Yba.underlying5 (hval 1 5 v1 rfl rfl) h1
  obtain ⟨a2, rfl, rfl, rfl, w2⟩ := open_string Yba.underlying9 (hval 2 9 v2 rfl rfl) h2
  clear hA0 hval0
  simp only [List.append_nil] at hW'
  refine (walk a0 a1 a2 w0 w1 w2 W).mono fun e W' ⟨he, hg⟩ => ?_
  subst he
  exact ⟨_, rfl, post_of_same (pa := []) (pv := []) hW' (fun _ _ _ => (trodAll_cons_mk (shut_bool Yba.underlying4 _) trodAll_mk0)) (fun sp _ => (trodAll_cons_mk (shut_int Yba.underlying3 w0) (trodAll_cons_mk (shut_int Yba.underlying5 w1) (trodAll_cons_mk (shut_string Yba.underlying9 w2) trodAll_mk0)))) (fun _ _ => rfl) rfl
    (hg.frame _) hg.2.1 (ok_one (by kernel_rfl) rfl (okWide_bool_mk Yba.underlying4 _))⟩

theorem over : Rows.lawS9052CWholeRow.holds Yba.pinned (OpenSpec.ofChange Rows.lawS9052CWholeSpec) :=
  OpenClaim.holds_of_wide 3 Yba.f3 rfl rfl rfl rfl rfl rfl rfl ⟨rfl, rfl, rfl, rfl, rfl⟩ rfl rfl rfl rfl rfl (by kernel_rfl) Yba.func3 (by kernel_rfl)
    (of_decide_eq_true (by kernel_rfl)) (by unfold Func.isWrapper; first | (rw [if_pos (by decide +kernel)]; kernel_rfl) | (rw [if_neg (by decide +kernel)]; exact ⟨rfl, rfl⟩))
    (fun os started H enc _ => lifted os started H enc)

/-- ████ THE STATEMENT ████ -/
theorem proved : Rows.LawS9052CWholeSaid :=
  over
end Go.Proofs.Ybulkgele.lawS9052CWhole
