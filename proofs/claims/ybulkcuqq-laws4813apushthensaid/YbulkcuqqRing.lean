/- Lists: the front of a ring, and a list laid over another. No program in sight. -/
import Derived.Laws.CopyOwn
namespace Go.Proofs.Ybulkcuqq

/-- the front n of a ring, oldest at h -/
def front {α : Type} (L : List α) (h n : Nat) : List α := (L.drop h ++ L).take n

namespace Ring
variable {α : Type}

theorem front_length (L : List α) (h n : Nat) (hn : n ≤ L.length) : (front L h n).length = n := by
  simp [front]; omega

theorem front_mem {L : List α} {h n : Nat} {v : α} (hv : v ∈ front L h n) : v ∈ L := by
  have := List.mem_of_mem_take hv
  rcases List.mem_append.1 this with k | k
  · exact List.mem_of_mem_drop k
  · exact k

theorem front_short (L : List α) (h n : Nat) (hn : n ≤ L.length - h) : front L h n = (L.drop h).take n := by
  unfold front
  rw [List.take_append_of_le_length (by simpa using hn)]

theorem front_long (L : List α) (h n : Nat) (hn : L.length - h ≤ n) : front L h n = L.drop h ++ L.take (n - (L.length - h)) := by
  unfold front
  rw [List.take_append]
  congr 1
  · exact List.take_of_length_le (by simpa using hn)
  · simp

theorem front_get (L : List α) (h n j : Nat) (hh : h < L.length) (hj : j < n) (hn : n ≤ L.length) : (front L h n)[j]? = L[(h + j) % L.length]? := by
  unfold front
  rw [List.getElem?_take, if_pos hj, List.getElem?_append]
  by_cases k : h + j < L.length
  · rw [if_pos (by simp; omega), List.getElem?_drop, Nat.mod_eq_of_lt k]
  · rw [if_neg (by simp; omega)]
    have e : (h + j) % L.length = h + j - L.length := by
      rw [Nat.mod_eq_sub_mod (by omega), Nat.mod_eq_of_lt (by omega)]
    rw [e]
    congr 1
    simp
    omega

theorem splice_nil (D : List α) (p : Nat) : splice D p [] = D := by simp [splice]

theorem splice_splice (D X Y : List α) (p : Nat) (h : p + X.length + Y.length ≤ D.length) : splice (splice D p X) (p + X.length) Y = splice D p (X ++ Y) := by
  unfold splice
  have e1 : (List.take p D ++ (X ++ List.drop (p + X.length) D)).take (p + X.length) = List.take p D ++ X := by
    rw [← List.append_assoc]
    rw [List.take_append_of_le_length (by simp; omega)]
    exact List.take_of_length_le (by simp; omega)
  have e2 : (List.take p D ++ (X ++ List.drop (p + X.length) D)).drop (p + X.length + Y.length) = List.drop (p + (X ++ Y).length) D := by
    rw [← List.append_assoc, List.drop_append]
    have : (List.take p D ++ X).length = p + X.length := by simp; omega
    rw [this, List.drop_eq_nil_of_le (by rw [this]; omega)]
    simp [List.drop_drop]
    congr 1
    omega
  rw [e1, e2]
  simp

theorem splice_get (D X : List α) (p i : Nat) (h : p + X.length ≤ D.length) : (splice D p X)[i]? = if i < p then D[i]? else if i < p + X.length then X[i - p]? else D[i]? := by
  unfold splice
  have hp : (List.take p D).length = p := by simp; omega
  rw [List.getElem?_append, hp]
  by_cases h1 : i < p
  · rw [if_pos h1, if_pos h1, List.getElem?_take, if_pos h1]
  · rw [if_neg h1, if_neg h1, List.getElem?_append]
    by_cases h2 : i < p + X.length
    · rw [if_pos (by omega), if_pos h2]
    · rw [if_neg (by omega), if_neg h2, List.getElem?_drop]
      congr 1
      omega
end Ring
end Go.Proofs.Ybulkcuqq
