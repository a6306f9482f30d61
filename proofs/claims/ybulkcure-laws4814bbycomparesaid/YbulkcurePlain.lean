/- The law's own lists: no program in sight. -/
import Derived.Test.YbulkcureKept
namespace Go.Proofs.Ybulkcure

/-- the k-th number that the law lays, from x on, over the deltas z -/
def nth (x : Int) (z : Nat → Int) : Nat → Int
  | 0 => x
  | k + 1 => nth x z k + (z k + 1)
/-- the numbers that the law lays -/
def nums (x : Int) (z : Nat → Int) (n : Nat) : List Int := (List.range n).map (nth x z)

theorem nums_len (x : Int) (z : Nat → Int) (n : Nat) : (nums x z n).length = n := by simp [nums]
theorem nums_get (x : Int) (z : Nat → Int) (n i : Nat) (h : i < (nums x z n).length) : (nums x z n)[i] = nth x z i := by simp [nums]
theorem nth_lt (x : Int) (z : Nat → Int) (n : Nat) (hz : ∀ k, k < n → 0 ≤ z k) (i j : Nat) (hij : i < j) (hj : j ≤ n) : nth x z i < nth x z j := by
  induction j with
  | zero => omega
  | succ j ih =>
    have := hz j (by omega)
    simp only [nth]
    by_cases e : i = j
    · subst e; omega
    · have := ih (by omega) (by omega); omega
theorem nth_bd (x : Int) (z : Nat → Int) (n : Nat) (hz : ∀ k, k < n → 0 ≤ z k ∧ z k ≤ 255) (k : Nat) (hk : k ≤ n) : x ≤ nth x z k ∧ nth x z k ≤ x + 256 * k := by
  induction k with
  | zero => simp [nth]
  | succ k ih =>
    have h1 := hz k (by omega)
    have h2 := ih (by omega)
    simp only [nth]
    omega
theorem nums_asc (x : Int) (z : Nat → Int) (n : Nat) (hz : ∀ k, k < n → 0 ≤ z k) : Asc (nums x z n) := by
  intro i j hi hj hij
  rw [nums_get, nums_get]
  rw [nums_len] at hj
  exact nth_lt x z n hz i j hij (by omega)
theorem ints_nums (x : Int) (z : Nat → Int) (n : Nat) (L : List Value) (hL : L.length = n) (h : ∀ i, i < n → L[i]? = some (.int .i64 (nth x z i))) : L = ints (nums x z n) := by
  apply List.ext_getElem?
  intro i
  by_cases hi : i < n
  · rw [h i hi, ints_get _ _ (by rw [nums_len]; exact hi), nums_get]
  · rw [List.getElem?_eq_none (by omega), List.getElem?_eq_none (by rw [ints_len, nums_len]; omega)]

/-! ### the model's merge: what it holds behind k rounds -/
/-- was v met among the first k -/
def met (zs : List Int) (v : Int) (k : Nat) : Bool := (zs.take k).any (· == v)
/-- was one above v met among the first k -/
def above (zs : List Int) (v : Int) (k : Nat) : Bool := (zs.take k).any (fun e => decide (v < e))
/-- the merge behind k rounds -/
def merge (zs : List Int) (v : Int) : Nat → List Int
  | 0 => []
  | k + 1 => (if above zs v k = false ∧ v < zs.getD k 0 then merge zs v k ++ [v] else merge zs v k) ++ [zs.getD k 0]

theorem take_step (zs : List Int) (k : Nat) (h : k < zs.length) : zs.take (k + 1) = zs.take k ++ [zs[k]] := by
  rw [List.take_succ_eq_append_getElem h]
theorem met_step (zs : List Int) (v : Int) (k : Nat) (h : k < zs.length) : met zs v (k + 1) = (met zs v k || (zs[k] == v)) := by
  unfold met; rw [take_step zs k h, List.any_append]; simp
theorem above_step (zs : List Int) (v : Int) (k : Nat) (h : k < zs.length) : above zs v (k + 1) = (above zs v k || decide (v < zs[k])) := by
  unfold above; rw [take_step zs k h, List.any_append]; simp
theorem merge_len (zs : List Int) (v : Int) (k : Nat) (hk : k ≤ zs.length) : (merge zs v k).length = k + (if above zs v k = true then 1 else 0) := by
  induction k with
  | zero => simp [merge, above]
  | succ k ih =>
    have hlt : k < zs.length := by omega
    have e : zs.getD k 0 = zs[k] := by simp [hlt]
    have i1 := ih (by omega)
    rw [above_step zs v k hlt]
    simp only [merge, e]
    cases hab : above zs v k
    · rw [hab] at i1
      simp at i1
      by_cases hv : v < zs[k]
      · simp [hv, i1]
      · simp [hv, i1]
    · rw [hab] at i1
      simp at i1
      simp [i1]

theorem met_place {zs : List Int} {v : Int} {p : Nat} (hP : Place zs v p) (hz : Asc zs) : met zs v zs.length = hit zs v p := by
  obtain ⟨h1, h2, h3⟩ := hP
  unfold met hit
  rw [List.take_length]
  by_cases h : zs[p]? = some v
  · rw [decide_eq_true h]
    rw [List.any_eq_true]
    exact ⟨v, List.mem_of_getElem? h, by simp⟩
  · rw [decide_eq_false h, List.any_eq_false]
    intro e he
    obtain ⟨i, hi, rfl⟩ := List.mem_iff_getElem.1 he
    intro hev
    have hev' : zs[i] = v := by simpa using hev
    rcases Nat.lt_trichotomy i p with g | g | g
    · have := h2 i hi g; omega
    · subst g; exact h (by rw [List.getElem?_eq_getElem hi, hev'])
    · have a1 := h3 p (by omega) (Nat.le_refl _)
      have a2 := hz p i (by omega) hi g
      omega

theorem above_place {zs : List Int} {v : Int} {p : Nat} (hP : Place zs v p) (hm : hit zs v p = false) (k : Nat) (hk : k ≤ zs.length) : above zs v k = decide (p < k) := by
  obtain ⟨h1, h2, h3⟩ := hP
  induction k with
  | zero => simp [above]
  | succ k ih =>
    have hlt : k < zs.length := by omega
    rw [above_step zs v k hlt, ih (by omega)]
    rcases Nat.lt_trichotomy k p with g | g | g
    · have := h2 k hlt g
      rw [decide_eq_false (by omega), decide_eq_false (by omega), decide_eq_false (by omega)]
      rfl
    · subst g
      have := h3 k hlt (Nat.le_refl _)
      have hne : zs[k] ≠ v := by
        intro e
        unfold hit at hm
        rw [List.getElem?_eq_getElem hlt, e] at hm
        simp at hm
      rw [decide_eq_true (show v < zs[k] by omega), decide_eq_true (show k < k + 1 by omega)]
      simp
    · rw [decide_eq_true g, decide_eq_true (show p < k + 1 by omega)]
      rfl

theorem ins_take (zs : List Int) (v : Int) (p k : Nat) (h1 : p ≤ zs.length) (h : p ≤ k) : (ins zs v p).take (k + 1) = zs.take p ++ (v :: (zs.drop p).take (k - p)) := by
  have hl : (zs.take p).length = p := by simp; omega
  unfold ins
  rw [List.take_append, hl, List.take_take, Nat.min_eq_right (by omega), show k + 1 - p = (k - p) + 1 from by omega, List.take_succ_cons]

theorem merge_place {zs : List Int} {v : Int} {p : Nat} (hP : Place zs v p) (hm : hit zs v p = false) (k : Nat) (hk : k ≤ zs.length) : merge zs v k = if p < k then (ins zs v p).take (k + 1) else zs.take k := by
  induction k with
  | zero => simp [merge]
  | succ k ih =>
    have hlt : k < zs.length := by omega
    have e : zs.getD k 0 = zs[k] := by simp [hlt]
    have hab := above_place hP hm k (by omega)
    have i1 := ih (by omega)
    obtain ⟨h1, h2, h3⟩ := hP
    simp only [merge, e, hab]
    rcases Nat.lt_trichotomy k p with g | g | g
    · have := h2 k hlt g
      rw [if_neg (by omega), if_neg (by omega), i1, if_neg (by omega), take_step zs k hlt]
    · subst g
      have := h3 k hlt (Nat.le_refl _)
      have hne : zs[k] ≠ v := by
        intro e
        unfold hit at hm
        rw [List.getElem?_eq_getElem hlt, e] at hm
        simp at hm
      rw [if_pos ⟨by simp, by omega⟩, if_pos (by omega), i1, if_neg (by omega), ins_take zs v k (k + 1) h1 (by omega), show k + 1 - k = 1 from by omega, List.drop_eq_getElem_cons hlt]
      simp only [List.append_assoc, List.cons_append, List.nil_append, List.take_succ_cons, List.take_zero]
    · rw [if_neg (by simp; omega), if_pos (by omega), i1, if_pos g, ins_take zs v p k h1 (by omega), ins_take zs v p (k + 1) h1 (by omega), show k + 1 - p = (k - p) + 1 from by omega, List.take_succ_eq_append_getElem (by simp; omega)]
      have e3 : (zs.drop p)[k - p]'(by simp; omega) = zs[k] := by
        rw [List.getElem_drop]
        congr 1
        omega
      rw [e3]
      simp

/-- the merge, v appended where it was met nowhere and nothing above it -/
theorem merge_all {zs : List Int} {v : Int} {p : Nat} (hP : Place zs v p) (hm : hit zs v p = false) : (if above zs v zs.length = true then merge zs v zs.length else merge zs v zs.length ++ [v]) = ins zs v p := by
  rw [above_place hP hm _ (Nat.le_refl _), merge_place hP hm _ (Nat.le_refl _)]
  have h1 := hP.1
  by_cases h : p < zs.length
  · rw [if_pos (by simpa using h), if_pos h, List.take_of_length_le (by rw [ins_len zs v p h1]; exact Nat.le_refl _)]
  · have e : p = zs.length := by omega
    rw [if_neg (by simpa using h), if_neg h, e]
    simp [ins]

/-- v among those that are kept -/
theorem kept_place {zs : List Int} {v : Int} {p : Nat} (hP : Place zs v p) (hz : Asc zs) (hm : hit zs v p = false) (D : Nat) : ((ins zs v p).drop D).any (· == v) = decide (D ≤ p) := by
  have hmet := met_place hP hz
  rw [hm] at hmet
  have hne : ∀ e ∈ zs, e ≠ v := by
    intro e he h
    unfold met at hmet
    rw [List.take_length, List.any_eq_false] at hmet
    exact hmet e he (by simpa using h)
  obtain ⟨h1, _, _⟩ := hP
  have hl : (zs.take p).length = p := by simp; omega
  by_cases hD : D ≤ p
  · rw [decide_eq_true hD, List.any_eq_true]
    refine ⟨v, ?_, by simp⟩
    unfold ins
    rw [List.drop_append_of_le_length (by omega)]
    simp
  · rw [decide_eq_false hD, List.any_eq_false]
    intro e he
    unfold ins at he
    rw [List.drop_append, hl, List.drop_eq_nil_of_le (by omega), List.nil_append, show D - p = (D - p - 1) + 1 from by omega, List.drop_succ_cons] at he
    have := hne e (List.mem_of_mem_drop (List.mem_of_mem_drop he))
    simpa using this

end Go.Proofs.Ybulkcure
