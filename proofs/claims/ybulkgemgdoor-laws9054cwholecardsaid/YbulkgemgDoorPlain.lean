/-
  9054C, first text: the plain law, no Go in sight: the recursive walk, the walk by a stack, and the count of their visits.
-/
import GoSem.Claim
namespace Go.Proofs.YbulkgemgDoor
set_option linter.unusedSimpArgs false
set_option linter.unusedVariables false

abbrev Log := List (Nat × Nat)

def sib (A : Nat → Nat) (F : Nat → Log → Log × Bool) (v : Nat) : Nat → List Nat → Log → Log × Bool
  | i, [], L => (L ++ [(v, i)], A L.length == 4)
  | i, c :: rem, L =>
    if A L.length = 4 then (L ++ [(v, i)], true)
    else if A L.length = 3 then sib A F v (i + 1) rem (L ++ [(v, i)])
    else if (F c (L ++ [(v, i)])).2 = true then ((F c (L ++ [(v, i)])).1, true)
    else sib A F v (i + 1) rem (F c (L ++ [(v, i)])).1

def deep (C : Nat → List Nat) (A : Nat → Nat) : Nat → Nat → Log → Log × Bool
  | 0, _, L => (L, false)
  | d + 1, v, L => sib A (deep C A d) v 0 (C v) L

def cost (C : Nat → List Nat) : Nat → Nat → Nat
  | 0, _ => 0
  | d + 1, v => 1 + ((C v).map (fun c => 1 + cost C d c)).sum

section
variable {C : Nat → List Nat} {A : Nat → Nat} {n : Nat}

theorem sib_congr {F G : Nat → Log → Log × Bool} {v : Nat} : ∀ (rem : List Nat) (i : Nat) (L : Log), (∀ c ∈ rem, ∀ L, F c L = G c L) → sib A F v i rem L = sib A G v i rem L
  | [], _, _, _ => rfl
  | c :: rem, i, L, h => by
    have hc := h c (by simp)
    have hr := fun i L => sib_congr (F := F) (G := G) (v := v) rem i L (fun c hc => h c (by simp [hc]))
    simp only [sib, hc, hr]

def Rises (C : Nat → List Nat) (n : Nat) : Prop := ∀ v c, c ∈ C v → v < c ∧ c < n

theorem deep_stable (hC : Rises C n) : ∀ (d v : Nat), n ≤ v + d → v < n → ∀ L, deep C A d v L = deep C A (d + 1) v L
  | 0, v, h, hv, _ => by omega
  | d + 1, v, h, hv, L => by
    show sib A (deep C A d) v 0 (C v) L = sib A (deep C A (d + 1)) v 0 (C v) L
    refine sib_congr _ _ _ fun c hc L => ?_
    have := hC v c hc
    exact deep_stable hC d c (by omega) this.2 L

theorem cost_stable (hC : Rises C n) : ∀ (d v : Nat), n ≤ v + d → v < n → cost C d v = cost C (d + 1) v
  | 0, v, h, hv => by omega
  | d + 1, v, h, hv => by
    show 1 + ((C v).map (fun c => 1 + cost C d c)).sum = 1 + ((C v).map (fun c => 1 + cost C (d + 1) c)).sum
    congr 2
    refine List.map_congr_left fun c hc => ?_
    have := hC v c hc
    rw [cost_stable hC d c (by omega) this.2]

theorem cost_mono : ∀ (d v : Nat), cost C d v ≤ cost C (d + 1) v
  | 0, v => by simp [cost]
  | d + 1, v => by
    show 1 + ((C v).map (fun c => 1 + cost C d c)).sum ≤ 1 + ((C v).map (fun c => 1 + cost C (d + 1) c)).sum
    have : ∀ l : List Nat, (l.map (fun c => 1 + cost C d c)).sum ≤ (l.map (fun c => 1 + cost C (d + 1) c)).sum := by
      intro l
      induction l with
      | nil => simp
      | cons c l ih =>
        have := cost_mono d c
        simp only [List.map_cons, List.sum_cons]
        omega
    have := this (C v)
    omega

theorem sib_length {F : Nat → Log → Log × Bool} {g : Nat → Nat} {v : Nat} (hF : ∀ c L, (F c L).1.length ≤ L.length + g c) :
    ∀ (rem : List Nat) (i : Nat) (L : Log), (sib A F v i rem L).1.length ≤ L.length + 1 + (rem.map (fun c => 1 + g c)).sum
  | [], i, L => by simp [sib]
  | c :: rem, i, L => by
    have h1 := sib_length (v := v) hF rem (i + 1) (L ++ [(v, i)])
    have h2 := sib_length (v := v) hF rem (i + 1) (F c (L ++ [(v, i)])).1
    have h3 := hF c (L ++ [(v, i)])
    simp only [List.length_append, List.length_cons, List.length_nil, List.map_cons, List.sum_cons] at h1 h2 h3 ⊢
    unfold sib
    split
    · simp only [List.length_append, List.length_cons, List.length_nil]
      omega
    · split
      · omega
      · split
        · simp only
          omega
        · omega

theorem deep_length : ∀ (d v : Nat) (L : Log), (deep C A d v L).1.length ≤ L.length + cost C d v
  | 0, v, L => by simp [deep, cost]
  | d + 1, v, L => by
    have := sib_length (A := A) (v := v) (fun c L => deep_length d c L) (C v) 0 L
    simp only [deep, cost]
    omega

/-- the whole recursive walk, and its weight -/
def full (C : Nat → List Nat) (A : Nat → Nat) (n : Nat) : Nat → Log → Log × Bool := deep C A n
def wt (C : Nat → List Nat) (n : Nat) : Nat → Nat := cost C n
def wrem (C : Nat → List Nat) (n : Nat) (rem : List Nat) : Nat := 1 + (rem.map (fun c => 1 + wt C n c)).sum

theorem full_eq (hC : Rises C n) {v : Nat} (hv : v < n) (L : Log) : full C A n v L = sib A (full C A n) v 0 (C v) L := by
  unfold full
  rw [deep_stable hC n v (by omega) hv]
  rfl
theorem wt_eq (hC : Rises C n) {v : Nat} (hv : v < n) : wt C n v = wrem C n (C v) := by
  unfold wrem wt
  rw [cost_stable hC n v (by omega) hv]
  rfl
theorem full_length (v : Nat) (L : Log) : (full C A n v L).1.length ≤ L.length + wt C n v := deep_length n v L
theorem wrem_nil : wrem C n [] = 1 := by simp [wrem]
theorem wrem_cons (c : Nat) (rem : List Nat) : wrem C n (c :: rem) = wrem C n rem + 1 + wt C n c := by simp [wrem]; omega

/-- the walk by a stack, its top first -/
def run (C : Nat → List Nat) (A : Nat → Nat) (n : Nat) : List (Nat × Nat) → Log → Log × Bool
  | [], L => (L, false)
  | (v, i) :: st, L =>
    if (sib A (full C A n) v i ((C v).drop i) L).2 = true then ((sib A (full C A n) v i ((C v).drop i) L).1, true)
    else run C A n st (sib A (full C A n) v i ((C v).drop i) L).1
def weigh (C : Nat → List Nat) (n : Nat) : List (Nat × Nat) → Nat
  | [] => 0
  | (v, i) :: st => wrem C n ((C v).drop i) + weigh C n st

theorem run_root (hC : Rises C n) (hn : 0 < n) : run C A n [(0, 0)] [] = full C A n 0 [] := by
  rw [full_eq hC hn]
  simp only [run, List.drop_zero]
  split
  · rename_i h
    exact Prod.ext rfl h.symm
  · rename_i h
    exact Prod.ext rfl (by simpa using h)
theorem weigh_root (hC : Rises C n) (hn : 0 < n) : weigh C n [(0, 0)] = wt C n 0 := by
  simp [weigh, wt_eq hC hn]
theorem weigh_length : ∀ (st : List (Nat × Nat)), st.length ≤ weigh C n st
  | [] => by simp
  | (v, i) :: st => by
    have := weigh_length st
    simp only [weigh, wrem, List.length_cons]
    omega

theorem run_stop {v i : Nat} {st : List (Nat × Nat)} {L : Log} (ha : A L.length = 4) : run C A n ((v, i) :: st) L = (L ++ [(v, i)], true) := by
  have : sib A (full C A n) v i ((C v).drop i) L = (L ++ [(v, i)], true) := by
    cases (C v).drop i <;> simp [sib, ha]
  simp [run, this]
theorem run_pop {v i : Nat} {st : List (Nat × Nat)} {L : Log} (ha : A L.length ≠ 4) (hi : i = (C v).length) : run C A n ((v, i) :: st) L = run C A n st (L ++ [(v, i)]) := by
  have : sib A (full C A n) v i ((C v).drop i) L = (L ++ [(v, i)], false) := by
    rw [List.drop_of_length_le (by omega)]
    simp [sib, ha]
  simp [run, this]
theorem weigh_pop {v i : Nat} {st : List (Nat × Nat)} (hi : i = (C v).length) : weigh C n ((v, i) :: st) = weigh C n st + 1 := by
  rw [weigh, List.drop_of_length_le (by omega), wrem_nil]
  omega
theorem run_skip {v i : Nat} {st : List (Nat × Nat)} {L : Log} (ha : A L.length = 3) (hi : i < (C v).length) : run C A n ((v, i) :: st) L = run C A n ((v, i + 1) :: st) (L ++ [(v, i)]) := by
  have : sib A (full C A n) v i ((C v).drop i) L = sib A (full C A n) v (i + 1) ((C v).drop (i + 1)) (L ++ [(v, i)]) := by
    rw [List.drop_eq_getElem_cons hi]
    simp [sib, ha]
  simp only [run, this]
theorem weigh_next {v i : Nat} {st : List (Nat × Nat)} (hi : i < (C v).length) : weigh C n ((v, i) :: st) = weigh C n ((v, i + 1) :: st) + 1 + wt C n ((C v)[i]'hi) := by
  simp only [weigh]
  rw [List.drop_eq_getElem_cons hi, wrem_cons]
  omega
theorem run_push (hC : Rises C n) {v i : Nat} {st : List (Nat × Nat)} {L : Log} (h4 : A L.length ≠ 4) (h3 : A L.length ≠ 3) (hi : i < (C v).length) :
    run C A n ((v, i) :: st) L = run C A n (((C v)[i]'hi, 0) :: (v, i + 1) :: st) (L ++ [(v, i)]) := by
  have hc := hC v ((C v)[i]'hi) (List.getElem_mem hi)
  have e := full_eq (A := A) hC hc.2 (L ++ [(v, i)])
  have : sib A (full C A n) v i ((C v).drop i) L = if (full C A n ((C v)[i]'hi) (L ++ [(v, i)])).2 = true then ((full C A n ((C v)[i]'hi) (L ++ [(v, i)])).1, true) else sib A (full C A n) v (i + 1) ((C v).drop (i + 1)) (full C A n ((C v)[i]'hi) (L ++ [(v, i)])).1 := by
    rw [List.drop_eq_getElem_cons hi]
    simp only [sib, if_neg h4, if_neg h3]
  simp only [run, List.drop_zero, ← e, this]
  by_cases h : (full C A n ((C v)[i]'hi) (L ++ [(v, i)])).2 = true
  · simp [h]
  · simp [h]
theorem weigh_push (hC : Rises C n) {v i : Nat} {st : List (Nat × Nat)} (hi : i < (C v).length) :
    weigh C n ((v, i) :: st) = weigh C n (((C v)[i]'hi, 0) :: (v, i + 1) :: st) + 1 := by
  have hc := hC v ((C v)[i]'hi) (List.getElem_mem hi)
  rw [weigh_next hi]
  have : weigh C n (((C v)[i]'hi, 0) :: (v, i + 1) :: st) = wrem C n (C ((C v)[i]'hi)) + weigh C n ((v, i + 1) :: st) := by simp [weigh]
  rw [this, wt_eq hC hc.2]
  omega
end

/-- the operands of node v, out of the parents -/
def kids (par : Nat → Nat) (N v : Nat) : List Nat := ((List.range N).filter (fun j => par j == v)).map (· + 1)
theorem kids_zero (par : Nat → Nat) (v : Nat) : kids par 0 v = [] := rfl
theorem kids_succ (par : Nat → Nat) (N v : Nat) : kids par (N + 1) v = if par N = v then kids par N v ++ [N + 1] else kids par N v := by
  unfold kids
  rw [List.range_succ, List.filter_append, List.map_append]
  by_cases h : par N = v <;> simp [h]
theorem kids_rise {par : Nat → Nat} (hp : ∀ j, par j ≤ j) (N : Nat) : Rises (kids par N) (N + 1) := by
  intro v c hc
  simp only [kids, List.mem_map, List.mem_filter, List.mem_range, beq_iff_eq] at hc
  obtain ⟨j, ⟨h1, h2⟩, rfl⟩ := hc
  have := hp j
  omega
theorem kids_length (par : Nat → Nat) (v : Nat) : ∀ N, (kids par N v).length ≤ N := by
  intro N
  unfold kids
  rw [List.length_map]
  exact Nat.le_trans (List.length_filter_le _ _) (by simp)

theorem sum_split (g : Nat → Nat) (p q r : Nat → Bool) (l : List Nat) (h : ∀ j ∈ l, (r j = (p j || q j)) ∧ (p j && q j) = false) :
    ((l.filter p).map g).sum + ((l.filter q).map g).sum = ((l.filter r).map g).sum := by
  induction l with
  | nil => simp
  | cons j l ih =>
    have ih' := ih (fun j hj => h j (by simp [hj]))
    obtain ⟨h1, h2⟩ := h j (by simp)
    cases hp : p j <;> cases hq : q j <;> simp [hp, hq] at h1 h2 <;> simp [List.filter_cons, hp, hq, h1] <;> omega

theorem front {par : Nat → Nat} (hp : ∀ j, par j ≤ j) (N d : Nat) : ∀ (k m : Nat), m + k = N →
    (((List.range' m k).filter (fun j => decide (par j ≤ m))).map (fun j => 1 + cost (kids par N) d (j + 1))).sum ≤ 2 * k
  | 0, m, _ => by simp
  | k + 1, m, h => by
    have ih := front hp N d k (m + 1) (by omega)
    have hm : decide (par m ≤ m) = true := by simpa using hp m
    rw [List.range'_succ, List.filter_cons, if_pos hm, List.map_cons, List.sum_cons]
    have h1 : cost (kids par N) d (m + 1) ≤ 1 + ((kids par N (m + 1)).map (fun c => 1 + cost (kids par N) d c)).sum := Nat.le_trans (cost_mono d (m + 1)) (Nat.le_refl _)
    have h2 : (kids par N (m + 1)).map (fun c => 1 + cost (kids par N) d c) = ((List.range' (m + 1) k).filter (fun j => par j == m + 1)).map (fun j => 1 + cost (kids par N) d (j + 1)) := by
      have e : List.range N = List.range (m + 1) ++ List.range' (m + 1) k := by
        rw [List.range_eq_range', List.range_eq_range', ← h]
        have := List.range'_append (s := 0) (m := m + 1) (n := k) (step := 1)
        simp only [Nat.one_mul, Nat.zero_add] at this
        rw [this]
        congr 1
        omega
      have e0 : (List.range (m + 1)).filter (fun j => par j == m + 1) = [] := by
        rw [List.filter_eq_nil_iff]
        intro j hj
        have := hp j
        have := List.mem_range.1 hj
        simp
        omega
      unfold kids
      rw [List.map_map, e, List.filter_append, e0, List.nil_append]
      rfl
    rw [h2] at h1
    have h3 := sum_split (fun j => 1 + cost (kids par N) d (j + 1)) (fun j => decide (par j ≤ m)) (fun j => par j == m + 1) (fun j => decide (par j ≤ m + 1)) (List.range' (m + 1) k) (by
      intro j _
      constructor
      · by_cases h1 : par j ≤ m
        · have : par j ≤ m + 1 := by omega
          simp [h1, this]
        · by_cases h2 : par j = m + 1
          · simp [h2]
          · have : ¬ par j ≤ m + 1 := by omega
            simp [h1, h2, this]
      · by_cases h1 : par j ≤ m
        · have : ¬ par j = m + 1 := by omega
          simp [this]
        · simp [h1])
    omega

theorem wt_root {par : Nat → Nat} (hp : ∀ j, par j ≤ j) (N : Nat) : wt (kids par N) (N + 1) 0 ≤ 2 * N + 1 := by
  have h := front hp N N N 0 (by omega)
  have e : (kids par N 0).map (fun c => 1 + cost (kids par N) N c) = ((List.range' 0 N).filter (fun j => decide (par j ≤ 0))).map (fun j => 1 + cost (kids par N) N (j + 1)) := by
    unfold kids
    rw [List.map_map, List.range_eq_range']
    have : (fun j => par j == 0) = (fun j => decide (par j ≤ 0)) := by
      funext j
      cases h : par j <;> simp
    rw [this]
    rfl
  unfold wt
  rw [cost, e]
  omega
#print axioms wt_root
end Go.Proofs.YbulkgemgDoor
