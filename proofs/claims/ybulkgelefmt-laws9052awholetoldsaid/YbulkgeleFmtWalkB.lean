import Derived.Test.YbulkgeleFmtWalkA
namespace Go.Proofs.YbulkgeleFmt
open Go.RowKit Go.Extern.Stop Go.Stop Go.Extern

theorem isEmpty_false (s : ByteArray) (h : s.size ≠ 0) : s.toList.isEmpty = false := by
  rw [ByteArray.toList_eq]
  cases hd : s.data.toList with
  | nil => exact absurd (by rw [← ByteArray.size_data, ← Array.length_toList, hd]; rfl) h
  | cons a l => rfl

theorem rest_ways {n : Int} (h : restB n = true) (hl : ¬ letB n = true) : digB n = true ∨ n = 43 ∨ n = 45 ∨ n = 46 := by
  have : letB n = false := by simpa using hl
  simpa [restB, this, or_assoc] using h

set_option maxHeartbeats 1000000 in
theorem check_ok (s : ByteArray) (w : World) (hs : s.size ≤ maxLen) (hv0 : schemeB s = true) :
    Calls Ybaf.prog 4 #[.string s] w fun e w' => e = .returned .nilIface ∧ w' = w := by
  unfold maxLen at hs
  have h0 : s.size ≠ 0 := fun h => by simp [schemeB, h, validTo] at hv0
  have hall : ∀ k, k ≤ s.size → validTo s k = true := fun k hk => by
    cases h : validTo s k with
    | true => rfl
    | false => rw [schemeB, validTo_false s hk h] at hv0; cases hv0
  have hne := isEmpty_false s h0
  have hok : ∀ k, k < s.size → okAt s k = true := fun k hk => by
    have := hall (k + 1) hk
    simp [validTo] at this; exact this.2
  clear hv0
  have HA := (show Hid _ from hok)
  clear hok hall
  go_enter Ybaf.func4, Ybaf.ntmps4
  go_wp2
  go_loop [3, 4, 5] (fun v i _ => ∃ k : Nat, k ≤ s.size ∧ i = .int .i64 k ∧ v = .bool true) (fun _ i _ => s.size - (intOf i).toNat)
  case atStart => exact ⟨0, by omega, rfl, rfl⟩
  case round =>
    obtain ⟨k, hk, rfl, rfl⟩ := hrel
    by_cases hlt : k < s.size
    · have HO := HA.out k hlt
      clear HA
      by_cases hk0 : k = 0
      · subst hk0
        have hl : letB (s[0].toNat : Int) = true := by simpa [okAt, hlt] using HO
        clear HO
        go_wp2_with (go_at_call 7; refine (let7 _ _).mono ?_; rintro e w ⟨rfl, rfl⟩)
        go_round
        case rel => exact ⟨1, by omega, rfl, rfl⟩
        case measure => simp [intOf]; omega
      · have hr : restB (s[k].toNat : Int) = true := by simpa [okAt, hlt, hk0] using HO
        clear HO
        have hpos : (0 : Int) < k := by omega
        by_cases hl : letB (s[k].toNat : Int) = true
        · clear hr
          go_wp2_with (go_at_call 7; refine (let7 _ _).mono ?_; rintro e w ⟨rfl, rfl⟩)
          go_round
          case rel => exact ⟨k + 1, by omega, by go_num, rfl⟩
          case measure => simp [intOf]; omega
        · have hw := rest_ways hr hl
          rw [Bool.not_eq_true] at hl
          clear hr
          by_cases hd : digB (s[k].toNat : Int) = true
          · clear hw
            go_wp2_with (first | (go_at_call 7; refine (let7 _ _).mono ?_; rintro e w ⟨rfl, rfl⟩) | (go_at_call 8; refine (dig8 _ _).mono ?_; rintro e w ⟨rfl, rfl⟩))
            go_round
            case rel => exact ⟨k + 1, by omega, by go_num, rfl⟩
            case measure => simp [intOf]; omega
          · have hw' : (s[k].toNat : Int) = 43 ∨ (s[k].toNat : Int) = 45 ∨ (s[k].toNat : Int) = 46 := hw.resolve_left hd
            rw [Bool.not_eq_true] at hd
            clear hw
            have HW := (show Hid _ from hw')
            clear hw'
            go_wp2_with (first | (go_at_call 7; refine (let7 _ _).mono ?_; rintro e w ⟨rfl, rfl⟩) | (go_at_call 8; refine (dig8 _ _).mono ?_; rintro e w ⟨rfl, rfl⟩))
            all_goals
              go_round
              case rel => exact ⟨k + 1, by omega, by go_num, by have := HW.out; first | rfl | (simp; done) | (simp; omega)⟩
              case measure => simp [intOf]; omega
    · clear HA
      go_wp2
      go_ret
      exact ⟨rfl, rfl⟩

theorem okAt_first {s : ByteArray} (h : 0 < s.size) : okAt s 0 = letB (s[0].toNat : Int) := by simp [okAt, h]
theorem okAt_later {s : ByteArray} {k : Nat} (h : k < s.size) (h0 : ¬ k = 0) : okAt s k = restB (s[k].toNat : Int) := by simp [okAt, h, h0]
theorem validTo_succ {s : ByteArray} {k : Nat} (h : validTo s k = true) : validTo s (k + 1) = okAt s k := by simp [validTo, h]

set_option maxHeartbeats 1000000 in
theorem check_bad (F : Interp) (s : ByteArray) (w : World) (hF : F.answers w.tape) (hs : s.size ≤ maxLen) (hv0 : schemeB s = false) :
    Calls Ybaf.prog 4 #[.string s] w fun e w' => (∃ t v, e = .returned (.iface t v)) ∧ Below w.heap.size w w' := by
  unfold maxLen at hs
  have HV := (show Hid _ from hv0)
  clear hv0
  by_cases h0 : s.size = 0
  · have hne : s.toList.isEmpty = true := by
      rw [ByteArray.toList_eq]
      have : s.data.toList = [] := List.length_eq_zero_iff.1 (by rw [Array.length_toList, ByteArray.size_data]; exact h0)
      rw [this]; rfl
    clear h0
    go_enter Ybaf.func4, Ybaf.ntmps4
    go_wp2
    go_loop [3, 4, 5] (fun v _ _ => v = .bool false) (fun _ _ _ => 0)
    case atStart => rfl
    case round =>
      subst hrel
      go_wp2_with fail
      change Calls Ybaf.prog 9 #[.string ⟨form.toArray⟩, .slice (some ⟨w.heap.size, 0, none⟩) 1 1] _ _
      refine (errorf_any F s _ (by exact hF) _ (by go_simp)).mono ?_
      rintro e w' ⟨⟨t, v, rfl⟩, hb⟩
      go_wp2
      go_ret
      exact ⟨⟨t, v, rfl⟩, ((Below.refl _ _).alloc (Nat.le_refl _) _).trans (hb.mono (by simp))⟩
  have hne := isEmpty_false s h0
  go_enter Ybaf.func4, Ybaf.ntmps4
  go_wp2
  go_loop [3, 4, 5] (fun v i _ => ∃ k : Nat, k ≤ s.size ∧ i = .int .i64 k ∧ v = .bool (validTo s k)) (fun _ i _ => s.size - (intOf i).toNat)
  case atStart => exact ⟨0, by omega, rfl, by simp [validTo, h0]⟩
  case round =>
    obtain ⟨k, hk, rfl, rfl⟩ := hrel
    by_cases hgo : validTo s k = true ∧ k < s.size
    · obtain ⟨hv, hlt⟩ := hgo
      have HN : Hid (validTo s (k + 1) = okAt s k) := validTo_succ hv
      rw [hv]
      clear hv
      by_cases hk0 : k = 0
      · subst hk0
        have HN' : Hid (validTo s 1 = letB (s[0].toNat : Int)) := HN.out.trans (okAt_first hlt)
        clear HN
        by_cases hl : letB (s[0].toNat : Int) = true
        · go_wp2_with (go_at_call 7; refine (let7 _ _).mono ?_; rintro e w ⟨rfl, rfl⟩)
          go_round
          case rel => exact ⟨1, by omega, rfl, by rw [HN'.out, hl]⟩
          case measure => simp [intOf]; omega
        · rw [Bool.not_eq_true] at hl
          go_wp2_with (go_at_call 7; refine (let7 _ _).mono ?_; rintro e w ⟨rfl, rfl⟩)
          go_round
          case rel => exact ⟨1, by omega, rfl, by rw [HN'.out, hl]⟩
          case measure => simp [intOf]; omega
      · have HN' : Hid (validTo s (k + 1) = restB (s[k].toNat : Int)) := HN.out.trans (okAt_later hlt hk0)
        clear HN
        have hpos : (0 : Int) < k := by omega
        by_cases hl : letB (s[k].toNat : Int) = true
        · have HN2 : Hid (validTo s (k + 1) = true) := HN'.out.trans (by simp [restB, hl])
          go_wp2_with (go_at_call 7; refine (let7 _ _).mono ?_; rintro e w ⟨rfl, rfl⟩)
          go_round
          case rel => exact ⟨k + 1, by omega, by go_num, by rw [HN2.out]⟩
          case measure => simp [intOf]; omega
        · rw [Bool.not_eq_true] at hl
          by_cases hd : digB (s[k].toNat : Int) = true
          · have HN2 : Hid (validTo s (k + 1) = true) := HN'.out.trans (by simp [restB, hd])
            go_wp2_with (first | (go_at_call 7; refine (let7 _ _).mono ?_; rintro e w ⟨rfl, rfl⟩) | (go_at_call 8; refine (dig8 _ _).mono ?_; rintro e w ⟨rfl, rfl⟩))
            go_round
            case rel => exact ⟨k + 1, by omega, by go_num, by rw [HN2.out]⟩
            case measure => simp [intOf]; omega
          · rw [Bool.not_eq_true] at hd
            have HN2 : Hid (validTo s (k + 1) = ((s[k].toNat : Int) == 43 || (s[k].toNat : Int) == 45 || (s[k].toNat : Int) == 46)) := HN'.out.trans (by simp only [restB, hl, hd, Bool.false_or])
            go_wp2_with (first | (go_at_call 7; refine (let7 _ _).mono ?_; rintro e w ⟨rfl, rfl⟩) | (go_at_call 8; refine (dig8 _ _).mono ?_; rintro e w ⟨rfl, rfl⟩))
            all_goals
              go_round
              case rel => exact ⟨k + 1, by omega, by go_num, by rw [HN2.out] <;> first | rfl | (simp [*]; done)⟩
              case measure => simp [intOf]; omega
    · have hv : validTo s k = false := by
        cases h : validTo s k with
        | false => rfl
        | true =>
          have hke : k = s.size := by
            by_cases h' : k < s.size
            · exact absurd ⟨h, h'⟩ hgo
            · omega
          have := HV.out
          rw [schemeB, ← hke, h] at this; cases this
      rw [hv]
      clear hgo hv
      go_wp2_with fail
      change Calls Ybaf.prog 9 #[.string ⟨form.toArray⟩, .slice (some ⟨w.heap.size, 0, none⟩) 1 1] _ _
      refine (errorf_any F s _ (by exact hF) _ (by go_simp)).mono ?_
      rintro e w' ⟨⟨t, v, rfl⟩, hb⟩
      go_wp2
      go_ret
      exact ⟨⟨t, v, rfl⟩, ((Below.refl _ _).alloc (Nat.le_refl _) _).trans (hb.mono (by simp))⟩
end Go.Proofs.YbulkgeleFmt
