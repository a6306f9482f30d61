/- The second law's own lists: no program in sight. -/
import Derived.Test.YbulkcureKeptKv
namespace Go.Proofs.Ybulkcure
open Mem

/-- the items that the law lays -/
def items (x : Int) (z : Nat → Int) (n : Nat) : List (Int × Int) := (List.range n).map (fun i => (nth x z i, (i : Int)))
theorem items_len (x : Int) (z : Nat → Int) (n : Nat) : (items x z n).length = n := by simp [items]
theorem items_get (x : Int) (z : Nat → Int) (n i : Nat) (h : i < (items x z n).length) : (items x z n)[i] = (nth x z i, (i : Int)) := by simp [items]
theorem items_keys (x : Int) (z : Nat → Int) (n : Nat) : keys (items x z n) = nums x z n := by simp [keys, items, nums]
theorem items_tag (x : Int) (z : Nat → Int) (n : Nat) : ∀ j (h : j < (items x z n).length), 0 ≤ (items x z n)[j].2 := by
  intro j h
  rw [items_get]
  show (0 : Int) ≤ (j : Int)
  omega

/-- the first k items lie in L -/
def LaidK (x : Int) (z : Nat → Int) (k n : Nat) (L : List Value) : Prop := L.length = n * 2 ∧ ∀ i, i < k → L[i * 2]? = some (.int .i64 (nth x z i)) ∧ L[i * 2 + 1]? = some (.int .i64 (i : Int))
theorem splice_at (L Y : List Value) (p i : Nat) (h : p + Y.length ≤ L.length) : (splice L p Y)[i]? = if i < p then L[i]? else if i < p + Y.length then Y[i - p]? else L[i]? := by
  unfold splice
  have hp : (List.take p L).length = p := by simp; omega
  rw [List.getElem?_append, hp]
  by_cases h1 : i < p
  · rw [if_pos h1, if_pos h1, List.getElem?_take, if_pos h1]
  · rw [if_neg h1, if_neg h1, List.getElem?_append]
    by_cases h2 : i < p + Y.length
    · rw [if_pos (by omega), if_pos h2]
    · rw [if_neg (by omega), if_neg h2, List.getElem?_drop]
      congr 1
      omega
theorem LaidK.step {x : Int} {z : Nat → Int} {k n : Nat} {L : List Value} (h : LaidK x z k n L) (hk : k < n) : LaidK x z (k + 1) n (splice L (k * 2) [.int .i64 (nth x z k), .int .i64 (k : Int)]) := by
  have hl := h.1
  have hfit : k * 2 + [Value.int .i64 (nth x z k), .int .i64 (k : Int)].length ≤ L.length := by simp; omega
  refine ⟨by rw [length_splice _ _ _ hfit]; exact hl, fun i hi => ?_⟩
  rw [splice_at _ _ _ _ hfit, splice_at _ _ _ _ hfit]
  by_cases e : i < k
  · rw [if_pos (by omega), if_pos (by omega)]; exact h.2 i e
  · have : i = k := by omega
    subst this
    rw [if_neg (by omega), if_pos (by simp), if_neg (by omega), if_pos (by simp)]
    simp
theorem LaidK.all {x : Int} {z : Nat → Int} {n : Nat} {L : List Value} (h : LaidK x z n n L) : L = kvs (items x z n) := by
  apply List.ext_getElem?
  intro i
  have hl := h.1
  by_cases hi : i < n * 2
  · have h1 := h.2 (i / 2) (by omega)
    have h2 := kvs_get (items x z n) (i / 2) (by rw [items_len]; omega)
    rw [items_get] at h2
    rcases Nat.mod_two_eq_zero_or_one i with e | e
    · rw [show i = i / 2 * 2 from by omega, h1.1, h2.1]
    · rw [show i = i / 2 * 2 + 1 from by omega, h1.2, h2.2]
  · rw [List.getElem?_eq_none (by omega), List.getElem?_eq_none (by rw [kvs_len, items_len]; omega)]

theorem keys_insk (zs : List (Int × Int)) (v : Int) (p : Nat) : keys (insk zs v p) = ins (keys zs) v p := by simp [keys, insk, ins]

theorem ins_get (ks : List Int) (v : Int) (p i : Nat) (hp : p ≤ ks.length) : (ins ks v p)[i]? = if i < p then ks[i]? else if i = p then some v else ks[i - 1]? := by
  unfold ins
  have hl : (ks.take p).length = p := by simp; omega
  rw [List.getElem?_append, hl]
  by_cases h : i < p
  · rw [if_pos h, if_pos h, List.getElem?_take, if_pos h]
  · rw [if_neg h, if_neg h]
    by_cases e : i = p
    · subst e; simp
    · rw [if_neg e]
      obtain ⟨q, hq⟩ : ∃ q, i - p = q + 1 := ⟨i - p - 1, by omega⟩
      rw [hq, List.getElem?_cons_succ, List.getElem?_drop]
      congr 1
      omega

theorem asc_ins {ks : List Int} {v : Int} {p : Nat} (hP : Place ks v p) (hz : Asc ks) (hm : hit ks v p = false) : Asc (ins ks v p) := by
  obtain ⟨h1, h2, h3⟩ := hP
  have hgt : ∀ k (h : k < ks.length), p ≤ k → v < ks[k] := by
    intro k hk hpk
    have a1 := h3 k hk hpk
    by_cases e : k = p
    · subst e
      have : ks[k] ≠ v := by
        intro e2
        unfold hit at hm
        rw [List.getElem?_eq_getElem hk, e2] at hm
        simp at hm
      omega
    · have a2 := h3 p (by omega) (Nat.le_refl _)
      have a3 := hz p k (by omega) hk (by omega)
      omega
  have hl := ins_len ks v p h1
  intro i j hi hj hij
  have gi := ins_get ks v p i h1
  have gj := ins_get ks v p j h1
  rw [List.getElem?_eq_getElem hi] at gi
  rw [List.getElem?_eq_getElem hj] at gj
  rcases Nat.lt_trichotomy i p with a | a | a
  · rw [if_pos a, List.getElem?_eq_getElem (by omega)] at gi
    simp only [Option.some.injEq] at gi
    rw [gi]
    rcases Nat.lt_trichotomy j p with b | b | b
    · rw [if_pos b, List.getElem?_eq_getElem (by omega)] at gj
      simp only [Option.some.injEq] at gj
      rw [gj]
      exact hz i j _ _ hij
    · rw [if_neg (by omega), if_pos b] at gj
      simp only [Option.some.injEq] at gj
      rw [gj]
      exact h2 i _ a
    · rw [if_neg (by omega), if_neg (by omega), List.getElem?_eq_getElem (by omega)] at gj
      simp only [Option.some.injEq] at gj
      rw [gj]
      exact hz i (j - 1) _ _ (by omega)
  · rw [if_neg (by omega), if_pos a] at gi
    simp only [Option.some.injEq] at gi
    rw [gi, ]
    rw [if_neg (by omega), if_neg (by omega), List.getElem?_eq_getElem (by omega)] at gj
    simp only [Option.some.injEq] at gj
    rw [gj]
    exact hgt (j - 1) _ (by omega)
  · rw [if_neg (by omega), if_neg (by omega), List.getElem?_eq_getElem (by omega)] at gi
    rw [if_neg (by omega), if_neg (by omega), List.getElem?_eq_getElem (by omega)] at gj
    simp only [Option.some.injEq] at gi gj
    rw [gi, gj]
    exact hz (i - 1) (j - 1) _ _ (by omega)

theorem tag_mem {zs : List (Int × Int)} (ht : ∀ j (h : j < zs.length), 0 ≤ zs[j].2) {e : Int × Int} (he : e ∈ zs) : 0 ≤ e.2 := by
  obtain ⟨j, hj, rfl⟩ := List.mem_iff_getElem.1 he
  exact ht j hj

/-- what the law asks of the items that are kept -/
theorem kept_items {zs : List (Int × Int)} {v : Int} {p : Nat} (hP : Place (keys zs) v p) (hz : Asc (keys zs)) (hm : hit (keys zs) v p = false) (ht : ∀ j (h : j < zs.length), 0 ≤ zs[j].2) (D : Nat) :
    (((insk zs v p).drop D).any (fun e => e.2 == -1) = decide (D ≤ p)) ∧
    (∀ j (h : j < ((insk zs v p).drop D).length), ((insk zs v p).drop D)[j].2 = -1 → ((insk zs v p).drop D)[j].1 = v) ∧
    (∀ j (h : j + 1 < ((insk zs v p).drop D).length), (((insk zs v p).drop D)[j]'(by omega)).1 < ((insk zs v p).drop D)[j + 1].1) := by
  have hpl : p ≤ zs.length := by rw [← keys_len]; exact hP.1
  have hl : (zs.take p).length = p := by simp; omega
  refine ⟨?_, ?_, ?_⟩
  · by_cases hD : D ≤ p
    · rw [decide_eq_true hD, List.any_eq_true]
      refine ⟨(v, -1), ?_, by simp⟩
      unfold insk
      rw [List.drop_append_of_le_length (by omega)]
      simp
    · rw [decide_eq_false hD, List.any_eq_false]
      intro e he
      unfold insk at he
      rw [List.drop_append, hl, List.drop_eq_nil_of_le (by omega), List.nil_append, show D - p = (D - p - 1) + 1 from by omega, List.drop_succ_cons] at he
      have := tag_mem ht (List.mem_of_mem_drop (List.mem_of_mem_drop he))
      simp
      omega
  · intro j h hj
    have hmem := List.mem_of_mem_drop (List.getElem_mem h)
    generalize ((insk zs v p).drop D)[j] = e at hmem hj ⊢
    unfold insk at hmem
    rcases List.mem_append.1 hmem with k | k
    · have := tag_mem ht (List.mem_of_mem_take k); omega
    · rcases List.mem_cons.1 k with k | k
      · rw [k]
      · have := tag_mem ht (List.mem_of_mem_drop k); omega
  · intro j h
    have ha := asc_ins hP hz hm
    rw [← keys_insk] at ha
    have hlen : D + (j + 1) < (insk zs v p).length := by simp at h; omega
    have := ha (D + j) (D + (j + 1)) (by rw [keys_len]; omega) (by rw [keys_len]; omega) (by omega)
    rw [keys_get, keys_get] at this
    rw [List.getElem_drop, List.getElem_drop]
    exact this

end Go.Proofs.Ybulkcure
