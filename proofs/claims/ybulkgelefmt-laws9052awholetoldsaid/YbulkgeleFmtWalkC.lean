import Derived.Test.YbulkgeleFmtWalkB
import Derived.OpenShut
import Derived.Deep.RegionWith
import Derived.Deep.DeepCutAuto
namespace Go.Proofs.YbulkgeleFmt
open Go.RowKit Go.Extern.Stop Go.Stop Go.Extern

theorem info5 : (Ybaf.prog.info? 5).map (fun i => (i.zero, i.size, i.bytes)) = some (some (.int .u8 0), 1, 1) := by kernel_rfl

theorem size_fold (xs : List Int) (b : ByteArray) : (xs.foldl (fun r n => r.push (UInt8.ofNat n.toNat)) b).size = b.size + xs.length := by
  induction xs generalizing b with
  | nil => rfl
  | cons x xs ih => simp [ih, ByteArray.size_push]; omega

set_option maxHeartbeats 1000000 in
theorem build_some (b off len cap : Nat) (zs : List Int) (w : World) (hlen : len ≤ 1048576) (hlc : len ≤ cap) (hz : zs.length = cap) (hb : b < w.heap.size) (hpos : 0 < len)
    (hc : ∀ j, j < zs.length → w.cell? ⟨b, off + j, none⟩ = some (.int .u8 (zs.getD j 0))) (hwz : ∀ n ∈ zs, (Lit.int .u8 n).wf = true) :
    Calls Ybaf.prog 6 #[.slice (some ⟨b, off, none⟩) len cap] w fun e w' => (∃ t : ByteArray, e = .returned (.string t) ∧ t.size ≤ 1048576) ∧ Below w.heap.size w w' := by
  obtain ⟨i0, hi, hz0, hz1, hz2⟩ := info_parts info5
  have hrg := range_u8 hwz
  go_enter Ybaf.func6, Ybaf.ntmps6
  go_wp2_with (at_make; refine wpList_make_own _ rfl _ _ 22 rfl w.heap.size 5 i0 (.int .u8 0) 1 Ybaf.underlying22 hi hz0 hz1 _ _ _ len rfl rfl (by omega) ?b2 ?b3 (Nat.le_refl _) ?_)
  case b2 => rw [hz2]; omega
  case b3 => unfold maxLen; omega
  intro w0 hown0 hgrow0
  go_wp2
  go_loopw [3, 11] (fun out i wr => ∃ (k : Nat) (xs : List Int), k ≤ len ∧ i = .int .i64 k ∧ out = .slice (some ⟨w.heap.size, 0, none⟩) k len ∧
      wr.ownsRow w.heap.size 5 1 (.slice (some ⟨w.heap.size, 0, none⟩) k len) k (xs.map (Value.int .u8)) ∧ xs.length = k ∧ Below w.heap.size w wr) (fun _ i _ => len - (intOf i).toNat)
  case atStart => exact ⟨0, [], Nat.zero_le _, rfl, rfl, hown0, rfl, (Below.refl _ _).grown hgrow0 (Nat.le_refl _) (fun k h => by cases h)⟩
  case round =>
    obtain ⟨k, xs, hk, rfl, rfl, hown, hx, hnx⟩ := hrel
    by_cases hlt : k < len
    · have hcell : wr.cell? ⟨b, off + k, none⟩ = some (.int .u8 (zs.getD k 0)) := (hnx.cell (by exact hb)).trans (hc k (by omega))
      have hr := hrg k
      go_wp2_with (at_builtin; refine wpList_append_fits _ rfl (.tmp 15) (.tmp 20) 22 rfl w.heap.size 5 i0 1 Ybaf.underlying22 hi hz1 w.heap.size k len _ rfl (hown.alloc _) ⟨wr.heap.size, 0, none⟩ 1 1 [.int .u8 (((({ data := #[97, 90, 109, 48, 57, 43, 45, 46, 95, 58, 47, 32, 37, 195] } : ByteArray)[(zs[k]?.getD 0 % 14).toNat]'(by show _ < 14; omega)).toNat : Nat) : Int)] rfl rfl (by intro t u ht; match t, ht with | 0, ht => simp at ht; subst ht; simp [Addr.add]) (by intro u hu; simp at hu; subst hu; rfl) (by omega) ?_; intro w1 hown1 hgrow1)
      go_roundw
      case rel => exact ⟨k + 1, xs ++ [_], by omega, by go_num, rfl, by simpa using hown1, by simp [hx], (hnx.alloc hnx.size _).grown hgrow1 (by simp; have := hnx.size; omega) (fun k hk => by cases hk; exact Nat.le_refl _)⟩
      case measure => simp [intOf]; omega
    · have hke : k = len := by omega
      subst hke
      have hload : (loadCells ⟨w.heap.size, 0, none⟩ k).run Ybaf.prog wr = .ok (xs.map (Value.int .u8)).toArray wr := by
        have := run_loadCells_list (P := Ybaf.prog) wr ⟨w.heap.size, 0, none⟩ (xs.map (Value.int .u8)) (hown.cells rfl)
        simpa [hx] using this
      have hconv := (run_convert_bytes_string wr 22 9 5 (some ⟨w.heap.size, 0, none⟩) k k Ybaf.underlying22 Ybaf.underlying5 Ybaf.underlying9).trans (run_bytesToString wr ⟨w.heap.size, 0, none⟩ k k xs hload)
      generalize hT : xs.foldl (fun r n => r.push (UInt8.ofNat n.toNat)) ByteArray.empty = T at hconv
      have HT := (show Hid _ from hT)
      clear hT hload
      go_wp2
      go_ret
      exact ⟨⟨T, rfl, by rw [← HT.out, size_fold]; simp [hx]; omega⟩, hnx⟩

set_option maxHeartbeats 1000000 in
theorem build_zero (ao : Option Addr) (cap : Nat) (w : World) :
    Calls Ybaf.prog 6 #[.slice ao 0 cap] w fun e w' => (∃ t : ByteArray, e = .returned (.string t) ∧ t.size ≤ 1048576) ∧ Below w.heap.size w w' := by
  obtain ⟨i0, hi, hz0, hz1, hz2⟩ := info_parts info5
  go_enter Ybaf.func6, Ybaf.ntmps6
  go_wp2_with (at_make; refine wpList_make_own _ rfl _ _ 22 rfl w.heap.size 5 i0 (.int .u8 0) 1 Ybaf.underlying22 hi hz0 hz1 _ _ _ 0 rfl rfl (by omega) ?b2 ?b3 (Nat.le_refl _) ?_)
  case b2 => omega
  case b3 => unfold maxLen; omega
  intro w0 hown0 hgrow0
  have hload : (loadCells ⟨w.heap.size, 0, none⟩ 0).run Ybaf.prog w0 = .ok (([] : List Int).map (Value.int .u8)).toArray w0 :=
    run_loadCells_list (P := Ybaf.prog) w0 ⟨w.heap.size, 0, none⟩ [] (by simp)
  have hconv := (run_convert_bytes_string w0 22 9 5 (some ⟨w.heap.size, 0, none⟩) 0 0 Ybaf.underlying22 Ybaf.underlying5 Ybaf.underlying9).trans (run_bytesToString w0 ⟨w.heap.size, 0, none⟩ 0 0 [] hload)
  simp only [List.foldl_nil] at hconv
  clear hload
  go_wp2
  go_loop [3, 11] (fun v i => i = .int .i64 0 ∧ v = .slice (some ⟨w.heap.size, 0, none⟩) 0 0) (fun _ _ => 0)
  case atStart => exact ⟨rfl, rfl⟩
  case round =>
    obtain ⟨rfl, rfl⟩ := hrel
    go_wp2
    go_ret
    exact ⟨⟨_, rfl, by simp⟩, (Below.refl _ _).grown hgrow0 (Nat.le_refl _) (fun k h => by cases h)⟩

/-- WHAT THE WALK IS TOLD OF A SLICE OF INTEGERS THAT CAME IN. -/
def IsRow (k : IntKind) (w : World) (a : Option Addr) (len cap : Nat) (zs : List Int) : Prop :=
  (a = none ∧ len = 0 ∧ cap = 0 ∧ zs = []) ∨
  ∃ x, a = some x ∧ len ≤ cap ∧ cap ≤ maxLen ∧ zs.length = cap ∧ (∀ i, i < zs.length → w.cell? (x.add i) = some (.int k (zs.getD i 0))) ∧ ∀ n ∈ zs, (Lit.int k n).wf = true

theorem IsRow.below {k : IntKind} {w w' : World} {a : Option Addr} {len cap : Nat} {zs : List Int} (h : IsRow k w a len cap zs) (hb : Below w.heap.size w w') : IsRow k w' a len cap zs := by
  rcases h with h | ⟨x, h1, h2, h3, h4, h5, h6⟩
  · exact Or.inl h
  · refine Or.inr ⟨x, h1, h2, h3, h4, fun i hi => ?_, h6⟩
    have hc := h5 i hi
    rw [hb.cell (World.block_lt_of_cell? _ _ hc)]
    exact hc

theorem build_any (a : Option Addr) (len cap : Nat) (zs : List Int) (w : World) (h : IsRow .u8 w a len cap zs) (hl : len ≤ 1048576) :
    Calls Ybaf.prog 6 #[.slice a len cap] w fun e w' => (∃ t : ByteArray, e = .returned (.string t) ∧ t.size ≤ 1048576) ∧ Below w.heap.size w w' := by
  by_cases h0 : len = 0
  · subst h0; exact build_zero a cap w
  rcases h with ⟨_, h, _⟩ | ⟨x, rfl, h2, h3, h4, h5, h6⟩
  · exact absurd h h0
  · obtain ⟨b, off, rfl, hc⟩ := ints_at h5 (by omega)
    have hb : b < w.heap.size := World.block_lt_of_cell? _ _ (hc 0 (by omega))
    exact build_some b off len cap zs w hl h2 h4 hb (by omega) hc h6

set_option maxHeartbeats 1000000 in
theorem law_walk (F : Interp) (a0 : ByteArray) (a1 : Option Addr) (len1 cap1 : Nat) (z1 : List Int) (w : World) (hF : F.answers w.tape) (r0 : a0.size ≤ 140737488351232) (r1 : len1 ≤ 140737488351232) (w1 : IsRow .u8 w a1 len1 cap1 z1) :
    Calls Ybaf.prog 3 #[.string a0, .slice a1 len1 cap1] w fun e w' => e = .returned (.bool true) ∧ Below w.heap.size w w' := by
  by_cases hbig : (1048576 : Int) < a0.size + len1
  · go_enter Ybaf.func3, Ybaf.ntmps3
    go_wp2
    go_ret
    exact ⟨rfl, Below.refl _ _⟩
  have hs0 : a0.size ≤ maxLen := by unfold maxLen; omega
  have hl1 : len1 ≤ 1048576 := by omega
  cases hv : schemeB a0 with
  | true =>
    have HV := (show Hid _ from hv)
    clear hv
    go_enter Ybaf.func3, Ybaf.ntmps3
    go_wp2_with fail
    go_region_with (first | (go_at_call 4; refine (check_ok a0 _ hs0 HV.out).mono ?_; rintro e w ⟨rfl, rfl⟩) | (go_at_call 5; refine (model_any a0 _ hs0).mono ?_; rintro e w ⟨rfl, rfl⟩; rw [HV.out]))
    go_wp2_with (go_at_call 6; refine (build_any a1 len1 cap1 z1 _ (by exact w1) hl1).mono ?_; rintro e w2 ⟨⟨t2, rfl, ht2⟩, hb2⟩)
    have hF2 : F.answers w2.tape := by rw [hb2.tape]; exact hF
    have hs2 : t2.size ≤ maxLen := by unfold maxLen; omega
    have hB2 : Below w.heap.size w w2 := ((Below.refl _ w).drew).trans hb2
    cases hv2 : schemeB t2 with
    | true =>
      have HV2 := (show Hid _ from hv2)
      clear hv2
      go_region_with (first | (go_at_call 4; refine (check_ok t2 _ hs2 HV2.out).mono ?_; rintro e w3 ⟨rfl, rfl⟩) | (go_at_call 5; refine (model_any t2 _ hs2).mono ?_; rintro e w3 ⟨rfl, rfl⟩; rw [HV2.out]))
      go_wp2
      go_ret
      exact ⟨rfl, hB2.drew⟩
    | false =>
      have HV2 := (show Hid _ from hv2)
      clear hv2
      go_region_with (first | (go_at_call 4; refine (check_bad F t2 _ (by exact hF2) hs2 HV2.out).mono ?_; rintro e w3 ⟨⟨tt3, v3, rfl⟩, hb3⟩) | (go_at_call 5; refine (model_any t2 _ hs2).mono ?_; rintro e w4 ⟨rfl, rfl⟩; rw [HV2.out]))
      go_wp2
      go_ret
      exact ⟨rfl, hB2.drew.trans (hb3.mono hB2.size)⟩
  | false => 
    have HV := (show Hid _ from hv)
    clear hv
    go_enter Ybaf.func3, Ybaf.ntmps3
    go_wp2_with fail
    go_region_with (first | (go_at_call 4; refine (check_bad F a0 _ (by exact hF) hs0 HV.out).mono ?_; rintro e w' ⟨⟨t, v, rfl⟩, hb⟩) | (go_at_call 5; refine (model_any a0 _ hs0).mono ?_; rintro e w' ⟨rfl, rfl⟩; rw [HV.out]))
    replace hb : Below w.heap.size w w' := ((Below.refl _ w).drew).trans hb
    have hF1 : F.answers w'.tape := by rw [hb.tape]; exact hF
    go_wp2_with (go_at_call 6; refine (build_any a1 len1 cap1 z1 _ (by exact w1.below hb) hl1).mono ?_; rintro e w2 ⟨⟨t2, rfl, ht2⟩, hb2⟩)
    have hF2 : F.answers w2.tape := by rw [hb2.tape]; exact hF1
    have hs2 : t2.size ≤ maxLen := by unfold maxLen; omega
    have hB2 : Below w.heap.size w w2 := hb.trans (hb2.mono hb.size)
    cases hv2 : schemeB t2 with
    | true =>
      have HV2 := (show Hid _ from hv2)
      clear hv2
      go_region_with (first | (go_at_call 4; refine (check_ok t2 _ hs2 HV2.out).mono ?_; rintro e w3 ⟨rfl, rfl⟩) | (go_at_call 5; refine (model_any t2 _ hs2).mono ?_; rintro e w3 ⟨rfl, rfl⟩; rw [HV2.out]))
      go_wp2
      go_ret
      exact ⟨rfl, hB2.drew⟩
    | false =>
      have HV2 := (show Hid _ from hv2)
      clear hv2
      go_region_with (first | (go_at_call 4; refine (check_bad F t2 _ (by exact hF2) hs2 HV2.out).mono ?_; rintro e w3 ⟨⟨tt3, v3, rfl⟩, hb3⟩) | (go_at_call 5; refine (model_any t2 _ hs2).mono ?_; rintro e w4 ⟨rfl, rfl⟩; rw [HV2.out]))
      go_wp2
      go_ret
      exact ⟨rfl, hB2.drew.trans (hb3.mono hB2.size)⟩
end Go.Proofs.YbulkgeleFmt
