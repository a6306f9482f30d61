import Derived.Test.YbulkcuqqGcdWalk
namespace Go.Proofs.Ybulkcuqq
open Go.RowKit

theorem ret_int {k : IntKind} {a b : Int} (h : a = b) : Ending.returned (.int k a) = .returned (.int k b) := by rw [h]

theorem abs_any (x : Int) (w : World) (h : -9223372036854775807 ≤ x ∧ x ≤ 9223372036854775807) :
    Calls Yba.prog 14 #[.int .i64 x] w fun e w' => e = .returned (.int .i64 (x.natAbs : Int)) ∧ w = w' := by
  by_cases hx : x < 0
  · go_enter Yba.func14, Yba.ntmps14
    go_wp2
    go_ret
    exact ⟨ret_int (show -x = (x.natAbs : Int) from by omega), rfl⟩
  · go_enter Yba.func14, Yba.ntmps14
    go_wp2
    go_ret
    exact ⟨ret_int (show x = (x.natAbs : Int) from by omega), rfl⟩

theorem start_le (a b : Int) : ((a.natAbs.gcd b.natAbs : Nat) : Int) ≤ if (a.natAbs : Int) < b.natAbs then (b.natAbs : Int) else a.natAbs := by
  have := Gcd.gcd_le_max a.natAbs b.natAbs (by omega) (by omega)
  simpa using this

set_option maxHeartbeats 400000 in
theorem model_any (a b : Int) (w : World) (ha : -2000 ≤ a ∧ a ≤ 2000) (hb : -2000 ≤ b ∧ b ≤ 2000) :
    Calls Yba.prog 13 #[.int .i64 a, .int .i64 b] w fun e w' => e = .returned (.int .i64 ((a.natAbs.gcd b.natAbs : Nat) : Int)) ∧ Grown w w' := by
  have hs := start_le a b
  obtain ⟨A, hA⟩ : ∃ A : Int, (a.natAbs : Int) = A := ⟨_, rfl⟩
  obtain ⟨B, hB⟩ : ∃ B : Int, (b.natAbs : Int) = B := ⟨_, rfl⟩
  obtain ⟨G, hG⟩ : ∃ G : Nat, a.natAbs.gcd b.natAbs = G := ⟨_, rfl⟩
  have hA0 : 0 ≤ A ∧ A ≤ 2000 := by omega
  have hB0 : 0 ≤ B ∧ B ≤ 2000 := by omega
  have HA : Hid ((a.natAbs : Int) = A) := hA
  have HB : Hid ((b.natAbs : Int) = B) := hB
  have hGG : A.natAbs.gcd B.natAbs = G := by rw [← hG, ← hA, ← hB]; simp
  have HG : Hid (A.natAbs.gcd B.natAbs = G) := hGG
  rw [hG, hA, hB] at hs
  rw [hG]
  clear hA hB hG hGG
  go_enter Yba.func13, Yba.ntmps13
  go_wp2_with fail
  refine (abs_any a _ (by omega)).mono ?_
  rintro e w' ⟨rfl, rfl⟩
  go_wp2_with fail
  refine (abs_any b _ (by omega)).mono ?_
  rintro e w' ⟨rfl, rfl⟩
  rw [HA.out, HB.out]
  by_cases hlt : A < B
  all_goals
    first | rw [if_pos hlt] at hs | rw [if_neg hlt] at hs
    go_wp2
    go_loopw [8] (fun t wr => ∃ d : Int, t = .int .i64 d ∧ 0 ≤ d ∧ d ≤ 2000 ∧ (G : Int) ≤ d ∧ (1 ≤ d → A ≠ 0 ∨ B ≠ 0) ∧ Grown w wr) (fun t _ => (intOf t).toNat)
    case atStart => exact ⟨_, rfl, by omega, by omega, hs, by omega, Grown.refl _⟩
    case round =>
      obtain ⟨d, rfl, hd0, hd1, hd2, hd3, hg⟩ := hrel
      by_cases hd : 1 ≤ d
      · by_cases h1 : A % d = 0
        · by_cases h2 : B % d = 0
          · go_wp2
            go_ret
            exact ⟨ret_int ((Gcd.search_hit hA0.1 hB0.1 hd h1 h2 (by rw [HG.out]; exact hd2) (hd3 hd)).trans (by rw [HG.out])), hg⟩
          · have hm := Gcd.search_miss (A := A) (B := B) (d := d) (by simp [h1, h2]) (by rw [HG.out]; exact hd2)
            rw [HG.out] at hm
            go_wp2
            go_roundw
            case rel => exact ⟨d - 1, rfl, by omega, by omega, hm, fun _ => hd3 hd, hg⟩
            case measure => simp [intOf]; omega
        · have hm := Gcd.search_miss (A := A) (B := B) (d := d) (by simp [h1]) (by rw [HG.out]; exact hd2)
          rw [HG.out] at hm
          go_wp2
          go_roundw
          case rel => exact ⟨d - 1, rfl, by omega, by omega, hm, fun _ => hd3 hd, hg⟩
          case measure => simp [intOf]; omega
      · have hz : (G : Int) = 0 := by omega
        have HZ : Hid ((G : Int) = 0) := hz
        clear hz
        go_wp2
        go_ret
        exact ⟨ret_int HZ.out.symm, hg⟩

end Go.Proofs.Ybulkcuqq
