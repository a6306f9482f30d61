/- A ring that holds pointers to the elements of one row, oldest at h: plain facts on lists. -/
import Derived.Test.YbulkcuqqPopFront
namespace Go.Proofs.Ybulkcuqq
open Go.RowKit Mem

/-- how far behind the head the slot s stands -/
def pos (S h s : Nat) : Nat := if h ≤ s then s - h else s + S - h

def elt (B k : Nat) : Value := .pointer (some ⟨B, k * 4, none⟩)

/-- the ring L of S slots holds the first k elements of row B, oldest at h; its other slots are nil -/
def Fill (S h B k : Nat) (L : List Value) : Prop := L.length = S ∧ ∀ s, s < S → L[s]? = some (if pos S h s < k then elt B (pos S h s) else .pointer none)

namespace Fill

theorem zero (S h B : Nat) : Fill S h B 0 (List.replicate S (.pointer none)) := by
  refine ⟨by simp, fun s hs => ?_⟩
  simp [hs]

theorem at_mod (S x : Nat) (h : x < 2 * S) : x % S = if x < S then x else x - S := by
  split
  · exact Nat.mod_eq_of_lt ‹_›
  · rw [Nat.mod_eq_sub_mod (by omega), Nat.mod_eq_of_lt (by omega)]

theorem step {S h B k : Nat} {L : List Value} (f : Fill S h B k L) (hh : h < S) (hk : k < S) : Fill S h B (k + 1) (L.set ((h + k) % S) (elt B k)) := by
  obtain ⟨f1, f2⟩ := f
  refine ⟨by simpa using f1, fun s hs => ?_⟩
  have hm := at_mod S (h + k) (by omega)
  rw [List.getElem?_set]
  by_cases e : (h + k) % S = s
  · have hp : pos S h s = k := by rw [← e, hm]; unfold pos; split <;> split <;> omega
    rw [if_pos e, if_pos (by omega), hp, if_pos (by omega)]
  · have hp : pos S h s ≠ k := by intro e2; apply e; rw [hm, ← e2]; unfold pos; split <;> split <;> omega
    rw [if_neg e, f2 s hs]
    by_cases g : pos S h s < k
    · rw [if_pos g, if_pos (by omega)]
    · rw [if_neg g, if_neg (by omega)]

theorem oneCell {S h B k : Nat} {L : List Value} (f : Fill S h B k L) : ∀ v ∈ L, v.oneCell' = true := by
  intro v hv
  obtain ⟨s, hs, rfl⟩ := List.mem_iff_getElem.1 hv
  have := f.2 s (by have := f.1; omega)
  rw [List.getElem?_eq_getElem hs] at this
  simp only [Option.some.injEq] at this
  rw [this]
  split <;> rfl

theorem front {S h B c n : Nat} {L : List Value} (f : Fill S h B c L) (hh : h < S) (hn : n ≤ c) (hc : c ≤ S) (j : Nat) (hj : j < n) : (Ybulkcuqq.front L h n)[j]? = some (elt B j) := by
  have hl := f.1
  rw [Ring.front_get L h n j (by omega) hj (by omega), hl]
  have hm := at_mod S (h + j) (by omega)
  have hlt : (h + j) % S < S := Nat.mod_lt _ (by omega)
  rw [f.2 _ hlt]
  have hp : pos S h ((h + j) % S) = j := by rw [hm]; unfold pos; split <;> split <;> omega
  rw [hp, if_pos (by omega)]

theorem cleared_length (L : List Value) (h n : Nat) (hh : h < L.length) (hn : n ≤ L.length) : (cleared L h n).length = L.length := by
  unfold cleared
  rw [length_splice _ _ _ (by rw [length_splice _ _ _ (by simp; omega)]; simp; omega), length_splice _ _ _ (by simp; omega)]

theorem cleared_get (L : List Value) (h n s : Nat) (hh : h < L.length) (hn : n ≤ L.length) (hs : s < L.length) : (cleared L h n)[s]? = if pos L.length h s < n then some (.pointer none) else L[s]? := by
  have l1 : h + (List.replicate (min n (L.length - h)) (Value.pointer none)).length ≤ L.length := by simp; omega
  have l2 : 0 + (List.replicate (n - (L.length - h)) (Value.pointer none)).length ≤ (splice L h (List.replicate (min n (L.length - h)) (Value.pointer none))).length := by
    rw [length_splice _ _ _ l1]; simp; omega
  unfold cleared
  rw [Ring.splice_get _ _ _ _ l2, Ring.splice_get _ _ _ _ l1]
  simp only [List.length_replicate, List.getElem?_replicate, Nat.zero_add, Nat.sub_zero, Nat.not_lt_zero, if_false]
  unfold pos
  by_cases a : s < n - (L.length - h)
  · rw [if_pos a, if_pos a, if_pos]
    split <;> omega
  · rw [if_neg a]
    by_cases b : s < h
    · rw [if_pos b, if_neg]
      split <;> omega
    · rw [if_neg b]
      by_cases d : s < h + min n (L.length - h)
      · rw [if_pos d, if_pos (by omega), if_pos]
        split <;> omega
      · rw [if_neg d, if_neg]
        split <;> omega

theorem pos_moved (S h n s : Nat) (hh : h < S) (hn : n ≤ S) (hs : s < S) : pos S ((h + n) % S) s = if n = S then pos S h s else if n ≤ pos S h s then pos S h s - n else pos S h s + S - n := by
  rw [at_mod S (h + n) (by omega)]
  unfold pos
  repeat' split
  all_goals omega

/-- the ring behind popFront, as the law asks it -/
theorem after {S h B c n : Nat} {L : List Value} (f : Fill S h B c L) (hh : h < S) (hn : n ≤ c) (hc : c ≤ S) (s : Nat) (hs : s < S) :
    (cleared L h n)[s]? = some (if pos S ((h + n) % S) s < c - n then elt B (n + pos S ((h + n) % S) s) else .pointer none) := by
  have hl := f.1
  have hq := pos_moved S h n s hh (by omega) hs
  rw [cleared_get L h n s (by omega) (by omega) (by omega), hl, f.2 s hs]
  have hb : pos S h s < S := by unfold pos; split <;> omega
  generalize pos S ((h + n) % S) s = q at hq ⊢
  generalize pos S h s = x at hq hb ⊢
  by_cases g : x < n
  · rw [if_pos g, if_neg]
    split at hq
    · omega
    · split at hq <;> omega
  · have hx : q = x - n := by
      split at hq
      · omega
      · split at hq <;> omega
    rw [if_neg g]
    by_cases k : x < c
    · rw [if_pos k, if_pos (by omega), show n + q = x from by omega]
    · rw [if_neg k, if_neg (by omega)]

theorem pos_go (S h s : Nat) (hh : h < S) (hs : s < S) : ((s : Int) - h + S) % S = (pos S h s : Nat) := by
  have e : ((s : Int) - h + S) = ((s + S - h : Nat) : Int) := by omega
  rw [e, ← Int.natCast_emod]
  congr 1
  rw [at_mod S (s + S - h) (by omega)]
  unfold pos
  split <;> split <;> omega
theorem pos_lt (S h s : Nat) (hh : h < S) (hs : s < S) : pos S h s < S := by unfold pos; split <;> omega
end Fill

/-- the first k cells of D point to the elements of row B -/
def Pre (B k d : Nat) (D : List Value) : Prop := D.length = d ∧ ∀ i, i < k → D[i]? = some (elt B i)
theorem Pre.step {B k d : Nat} {D : List Value} (f : Pre B k d D) (hk : k < d) : Pre B (k + 1) d (D.set k (elt B k)) := by
  refine ⟨by simpa using f.1, fun i hi => ?_⟩
  rw [List.getElem?_set]
  by_cases e : k = i
  · rw [if_pos e, if_pos (by have := f.1; omega), e]
  · rw [if_neg e]
    exact f.2 i (by omega)
theorem Pre.zero (B d : Nat) (D : List Value) (h : D.length = d) : Pre B 0 d D := ⟨h, fun _ h => absurd h (by omega)⟩

end Go.Proofs.Ybulkcuqq
