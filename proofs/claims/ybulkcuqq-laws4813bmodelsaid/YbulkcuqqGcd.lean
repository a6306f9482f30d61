namespace Go.Proofs.Ybulkcuqq.Gcd

theorem gcd_step (x y : Int) : y.natAbs.gcd (x.tmod y).natAbs = x.natAbs.gcd y.natAbs := by
  rw [Int.natAbs_tmod, Nat.gcd_comm y.natAbs, ← Nat.gcd_rec, Nat.gcd_comm]

theorem tmod_abs_lt (x y : Int) (h : y ≠ 0) : (x.tmod y).natAbs < y.natAbs := by
  rw [Int.natAbs_tmod]
  exact Nat.mod_lt _ (by omega)

/-- what holds of gcd's two slots at each round's head -/
def Rel (a b x y : Int) : Prop :=
  x.natAbs.gcd y.natAbs = a.natAbs.gcd b.natAbs ∧ (-9223372036854775808 ≤ x ∧ x ≤ 9223372036854775807) ∧ (-9223372036854775808 ≤ y ∧ y ≤ 9223372036854775807) ∧
    (b = 0 → x = a ∧ y = 0) ∧ (0 ≤ a → 0 ≤ b → 0 ≤ x ∧ 0 ≤ y)

theorem rel_start (a b : Int) (ha : -9223372036854775808 ≤ a ∧ a ≤ 9223372036854775807) (hb : -9223372036854775808 ≤ b ∧ b ≤ 9223372036854775807) : Rel a b a b :=
  ⟨rfl, ha, hb, fun h => ⟨rfl, h⟩, fun h1 h2 => ⟨h1, h2⟩⟩

theorem rel_step {a b x y : Int} (h : Rel a b x y) (hy : y ≠ 0) : Rel a b y (x.tmod y) := by
  obtain ⟨h1, h2, h3, h4, h5⟩ := h
  refine ⟨(gcd_step x y).trans h1, h3, ?_, fun hb => absurd (h4 hb).2 hy, fun h6 h7 => ⟨(h5 h6 h7).2, ?_⟩⟩
  · have := tmod_abs_lt x y hy
    omega
  · exact Int.tmod_nonneg _ (h5 h6 h7).1

/-- what gcd answers -/
def IsGcd (a b g : Int) : Prop :=
  g.natAbs = a.natAbs.gcd b.natAbs ∧ (-9223372036854775808 ≤ g ∧ g ≤ 9223372036854775807) ∧ (b = 0 → g = a) ∧ (0 ≤ a → 0 ≤ b → 0 ≤ g)

theorem rel_end {a b x : Int} (h : Rel a b x 0) : IsGcd a b x := by
  obtain ⟨h1, h2, h3, h4, h5⟩ := h
  refine ⟨by simpa using h1, h2, fun hb => (h4 hb).1, fun h6 h7 => (h5 h6 h7).1⟩

theorem gcd_zero {a b : Int} (h : IsGcd a b 0) : a = 0 ∧ b = 0 := by
  have h1 := h.1
  simp at h1
  have := Nat.gcd_eq_zero_iff.1 h1.symm
  omega

theorem gcd_tmod {a b g : Int} (h : IsGcd a b g) : a.tmod g = 0 ∧ b.tmod g = 0 := by
  have h1 := h.1
  have d1 : g.natAbs ∣ a.natAbs := by rw [h1]; exact Nat.gcd_dvd_left _ _
  have d2 : g.natAbs ∣ b.natAbs := by rw [h1]; exact Nat.gcd_dvd_right _ _
  exact ⟨Int.tmod_eq_zero_of_dvd (Int.natAbs_dvd_natAbs.1 d1), Int.tmod_eq_zero_of_dvd (Int.natAbs_dvd_natAbs.1 d2)⟩

/-! ### the model's search -/
theorem search_hit {A B d : Int} (hA : 0 ≤ A) (hB : 0 ≤ B) (hd : 1 ≤ d) (h1 : A % d = 0) (h2 : B % d = 0) (hle : (A.natAbs.gcd B.natAbs : Int) ≤ d) (hp : A ≠ 0 ∨ B ≠ 0) : d = (A.natAbs.gcd B.natAbs : Int) := by
  have d1 : d.natAbs ∣ A.natAbs := Int.natAbs_dvd_natAbs.2 (Int.dvd_of_emod_eq_zero h1)
  have d2 : d.natAbs ∣ B.natAbs := Int.natAbs_dvd_natAbs.2 (Int.dvd_of_emod_eq_zero h2)
  have d3 := Nat.dvd_gcd d1 d2
  have hpos : 0 < A.natAbs.gcd B.natAbs := by
    apply Nat.pos_of_ne_zero
    intro h0
    have := Nat.gcd_eq_zero_iff.1 h0
    omega
  have := Nat.le_of_dvd hpos d3
  omega

theorem search_miss {A B d : Int} (h : ¬ (A % d = 0 ∧ B % d = 0)) (hle : (A.natAbs.gcd B.natAbs : Int) ≤ d) : (A.natAbs.gcd B.natAbs : Int) ≤ d - 1 := by
  by_cases e : (A.natAbs.gcd B.natAbs : Int) = d
  · exfalso
    apply h
    constructor
    · apply Int.emod_eq_zero_of_dvd
      rw [← e]
      exact Int.ofNat_dvd_left.2 (Nat.gcd_dvd_left _ _)
    · apply Int.emod_eq_zero_of_dvd
      rw [← e]
      exact Int.ofNat_dvd_left.2 (Nat.gcd_dvd_right _ _)
  · omega

theorem gcd_le_max (A B : Int) (hA : 0 ≤ A) (hB : 0 ≤ B) : (A.natAbs.gcd B.natAbs : Int) ≤ if A < B then B else A := by
  by_cases h : A = 0
  · subst h; simp; split <;> omega
  · have : A.natAbs.gcd B.natAbs ≤ A.natAbs := Nat.gcd_le_left _ (by omega)
    split <;> omega
end Go.Proofs.Ybulkcuqq.Gcd
