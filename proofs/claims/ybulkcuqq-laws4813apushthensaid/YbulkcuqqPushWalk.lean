/- LawS4813APushThen, walked. -/
import Derived.Test.YbulkcuqqQueue
namespace Go.Proofs.Ybulkcuqq
open Go.RowKit Mem

attribute [local go_sem ↓] Go.wp_at_zero Go.wp_at_succ

theorem mask1024 (x : Nat) (hx : x < 1000000) : bits .and .i64 (x : Int) (((1024 : Nat) : Int) - 1) = ((x % 1024 : Nat) : Int) := i64_mask x 10 (by omega) (by omega)

/-- slots j to kk - 1 of the ring hold their own elements -/
def Win (B j kk : Nat) (L : List Value) : Prop := L.length = 1024 ∧ ∀ s, j ≤ s → s < kk → L[s]? = some (elt B s)
theorem Win.step {B j kk : Nat} {L : List Value} (h : Win B j kk L) (v : Value) : Win B (j + 1) kk (L.set j v) := by
  refine ⟨by simpa using h.1, fun s h1 h2 => ?_⟩
  rw [List.getElem?_set, if_neg (by omega)]
  exact h.2 s (by omega) h2
theorem Win.start {B n kk : Nat} {L : List Value} (f : Fill 1024 0 B kk L) (hn : n ≤ kk) (hk : kk < 300) : Win B n kk (cleared L 0 n) := by
  have hl := f.1
  refine ⟨by rw [Fill.cleared_length L 0 n (by omega) (by omega), hl], fun s h1 h2 => ?_⟩
  have := Fill.after f (by omega) hn (by omega) s (by omega)
  rw [this]
  have hm : (0 + n) % 1024 = n := by omega
  rw [hm]
  have hp : pos 1024 n s = s - n := by unfold pos; rw [if_pos h1]
  rw [hp, if_pos (by omega), show n + (s - n) = s from by omega]

theorem cast_row {w : World} {g : Nat} {t : TypeId} {x : Value} {a b c d : Int} (h : Row w g t [x, .int .i64 a, .int .i64 b]) (e1 : a = c) (e2 : b = d) : Row w g t [x, .int .i64 c, .int .i64 d] := by
  rw [← e1, ← e2]; exact h

set_option maxRecDepth 100000 in
set_option maxHeartbeats 2000000 in
theorem push_walk (a0 : Int) (a1 : Int) (w0 : 0 ≤ a0 ∧ a0 ≤ 65535) (w1 : 0 ≤ a1 ∧ a1 ≤ 65535) (w : World) :
    Calls Yba.prog 4 #[.int .u16 a0, .int .u16 a1] w fun e w' => e = .returned (.bool true) ∧ Below w.heap.size w w' := by
  obtain ⟨kk, hkk⟩ : ∃ kk : Nat, a0 % 300 = kk := ⟨(a0 % 300).toNat, by omega⟩
  have hk1 : kk < 300 := by omega
  obtain ⟨n, hn⟩ : ∃ n : Nat, a1 % ((kk : Int) + 1) = n := ⟨(a1 % ((kk : Int) + 1)).toNat, by have := Int.emod_nonneg a1 (b := (kk : Int) + 1) (by omega); omega⟩
  have hn1 : n ≤ kk := by have := Int.emod_lt_of_pos a1 (b := (kk : Int) + 1) (by omega); omega
  obtain ⟨G, hG⟩ := make_gs kk (by omega)
  obtain ⟨B, hB⟩ : ∃ B : Nat, w.heap.size = B := ⟨_, rfl⟩
  rw [hB]
  have hneq := neq_same
  go_enter Yba.func4, Yba.ntmps4
  go_wp2_with fail
  refine (new_any w).mono ?_
  rintro e w1 ⟨Z, hZ, rfl, hb1, hz1, hr1⟩
  rw [hB] at hz1 hb1 hr1 ⊢
  have HZ : Hid (∀ Bg, Fill 1024 0 Bg 0 Z) := by rw [hZ]; exact fun Bg => Fill.zero _ _ _
  clear hZ
  have HR1 : Hid (Row w1 (B + 1) 25 Z) := hr1
  clear hr1
  obtain ⟨B2, hB2⟩ : ∃ B2, B + 2 = B2 := ⟨_, rfl⟩
  rw [hB2] at hz1
  have HB2 : Hid (B + 2 = B2) := hB2
  clear hB2
  go_wp2
  clear hkk hn
  obtain ⟨B3, hB3⟩ : ∃ B3, B2 + 1 = B3 := ⟨_, rfl⟩
  obtain ⟨B4, hB4⟩ : ∃ B4, B3 + 1 = B4 := ⟨_, rfl⟩
  rw [hB3]
  have HB : Hid (B + 2 = B2 ∧ B2 + 1 = B3 ∧ B3 + 1 = B4) := ⟨HB2.out, hB3, hB4⟩
  clear hB3 hB4 HB2 hG
  have HQ : Hid (∀ W : World, W.heap.size = B2 → Row (W.alloc (.cells #[.slice (some ⟨B + 1, 0, none⟩) 1024 1024, .int .i64 0, .int .i64 0] 38)) B2 38 [.slice (some ⟨B + 1, 0, none⟩) 1024 1024, .int .i64 0, .int .i64 0]) := fun W hW => row_new hW 38 [.slice (some ⟨B + 1, 0, none⟩) 1024 1024, .int .i64 0, .int .i64 0]
  go_loopw [9] (fun i wr => ∃ (k : Nat) (L : List Value), k ≤ kk ∧ i = .int .i64 k ∧ Hid (Fill 1024 0 B3 k L) ∧ Hid (Row wr (B + 1) 25 L) ∧ Hid (Row wr B2 38 [.slice (some ⟨B + 1, 0, none⟩) 1024 1024, .int .i64 0, .int .i64 k]) ∧ Below B w wr ∧ wr.heap.size = B4) (fun i _ => kk - (intOf i).toNat)
  case atStart =>
    have := HB.out
    exact ⟨0, Z, Nat.zero_le _, rfl, HZ.out _, (HR1.out.alloc _).alloc _, (HQ.out _ hz1).alloc _, (hb1.alloc (by omega) _).alloc (by rw [size_alloc]; omega) _, by rw [size_alloc, size_alloc, hz1]; omega⟩
  case round =>
    clear HZ HR1 HQ hz1 hb1
    obtain ⟨k, L, hk, rfl, hF, hR, hQ, hb, hz⟩ := hrel
    by_cases hlt : k < kk
    · have hm := mask1024 k (by omega)
      rw [show k % 1024 = k from by omega] at hm
      have HM : Hid (bits .and .i64 (((0 : Nat) : Int) + k) (((1024 : Nat) : Int) - 1) = k) := by rw [show (((0 : Nat) : Int) + k) = (k : Int) from by omega]; exact hm
      clear hm
      go_wp2_with fail
      refine (push_any B2 (B + 1) 0 1024 k k ⟨B3, k * 4, none⟩ L _ hQ.out hR.out hF.out.1 (by omega) (by omega) (by omega) HM.out (by omega) (by have := HB.out; omega)).mono ?_
      rintro e w2 ⟨rfl, ht, hR2, hQ2⟩
      have hF2 := Fill.step hF.out (by omega) (by omega : k < 1024)
      rw [show (0 + k) % 1024 = k from by omega] at hF2
      have HF2 : Hid (Fill 1024 0 B3 (k + 1) (L.set k (elt B3 k))) := hF2
      have HR2 : Hid (Row w2 (B + 1) 25 (L.set k (elt B3 k))) := hR2
      have HQ2 : Hid (Row w2 B2 38 [.slice (some ⟨B + 1, 0, none⟩) 1024 1024, .int .i64 0, .int .i64 ((k + 1 : Nat) : Int)]) := cast_row hQ2 rfl (by omega)
      have hz2 : w2.heap.size = B4 := ht.size.trans hz
      have hb2 : Below B w w2 := ht.below hb (by have := HB.out; simp; omega)
      clear hF2 hR2 hQ2 ht hb hz hF hR hQ
      go_wp2
      go_roundw
      case rel => exact ⟨k + 1, _, by omega, by go_num, HF2, HR2, HQ2, hb2, hz2⟩
      case measure => simp [intOf]; omega
    · obtain rfl : k = kk := by omega
      have hmk : ∀ w, (Instr.makeSlice 24 (.int .i64 0) (.int .i64 (n : Int))).run Yba.prog w = .ok (.slice (some ⟨w.heap.size, 0, none⟩) 0 n) (w.alloc (.cells (List.replicate n (Value.pointer none)).toArray 25)) := make_ps 0 n (by omega) (by omega)
      obtain ⟨Z, hZ⟩ : ∃ Z, List.replicate n (Value.pointer none) = Z := ⟨_, rfl⟩
      have HZ : Hid (Z.length = n) := by rw [← hZ]; exact (List.length_replicate : _ = n)
      rw [hZ] at hmk
      clear hZ
      have hm := mask1024 n (by omega)
      rw [show n % 1024 = n from by omega] at hm
      have HM : Hid (bits .and .i64 (((0 : Nat) : Int) + n) (((1024 : Nat) : Int) - 1) = n) := by rw [show (((0 : Nat) : Int) + n) = (n : Int) from by omega]; exact hm
      clear hm
      go_wp2_with fail
      refine (popFront_any B2 (B + 1) B4 0 n 0 1024 k n n L Z _ (hQ.out.alloc _) (hR.out.alloc _) (row_new hz 25 Z) hF.out.1 (by omega) (by omega) hn1 (by omega) (by omega) (by omega) HZ.out HM.out hF.out.oneCell (by have := HB.out; omega) (by have := HB.out; omega) (by have := HB.out; omega)).mono ?_
      rintro e w2 ⟨rfl, ht, hD2, hL2, hQ2⟩
      have hb2 : Below B w w2 := ht.below (hb.alloc (by have := HB.out; omega) _) (by have := HB.out; simp; omega)
      have H3 : Hid (∀ j, j < n → w2.cell? ⟨B4, j, none⟩ = some (elt B3 j)) := fun j hj => by
        have hfl := Ring.front_length L 0 n (by rw [hF.out.1]; omega)
        rw [hD2.cell, Ring.splice_get _ _ _ _ (by rw [hfl, HZ.out]; omega), if_neg (by omega), if_pos (by rw [hfl]; omega), Nat.sub_zero]
        exact Fill.front hF.out (by omega) hn1 (by omega) j hj
      have HW : Hid (Win B3 n k (cleared L 0 n)) := Win.start hF.out hn1 hk1
      have HL2 : Hid (Row w2 (B + 1) 25 (cleared L 0 n)) := hL2
      have HQ2 : Hid (Row w2 B2 38 [.slice (some ⟨B + 1, 0, none⟩) 1024 1024, .int .i64 n, .int .i64 ((k - n : Nat) : Int)]) := cast_row hQ2 rfl (by omega)
      clear hD2 hL2 hQ2 ht hb hz hF hR hQ HZ HM hmk
      rw [Nat.zero_add]
      go_wp2
      go_loopw [11] (fun i wr3 => ∃ i3 : Nat, i3 ≤ n ∧ i = .int .i64 i3 ∧ Turn [] w2 wr3) (fun i _ => n - (intOf i).toNat)
      case atStart => exact ⟨0, Nat.zero_le _, rfl, Turn.refl _ _⟩
      case round =>
        obtain ⟨i3, hi3, rfl, ht3⟩ := hrel
        by_cases hlt : i3 < n
        · have c3 := (ht3.cell (a := ⟨B4, i3, none⟩) (by simp)).trans (H3.out i3 hlt)
          unfold elt at c3
          have q1 : (i3 : Int) < (n : Int) := by omega
          have q2 : (i3 : Int) < (k : Int) := by omega
          go_wp2
          go_quiet (fail)
          go_wp2
          go_roundw
          case rel => exact ⟨i3 + 1, by omega, by go_num, ht3.drewN _⟩
          case measure => simp [intOf]; omega
        · clear H3
          have HL3 : Hid (Row wr (B + 1) 25 (cleared L 0 n)) := HL2.out.turn ht3 (by simp)
          have HQ3 : Hid (Row wr B2 38 [.slice (some ⟨B + 1, 0, none⟩) 1024 1024, .int .i64 n, .int .i64 ((k - n : Nat) : Int)]) := HQ2.out.turn ht3 (by simp)
          have hb3 : Below B w wr := ht3.below hb2 (by simp)
          clear HL2 HQ2 hb2 ht3
          go_wp2_with fail
          refine (len_any B2 (B + 1) n 1024 (k - n) _ HQ3.out).mono ?_
          rintro e w3 ⟨rfl, rfl⟩
          rw [show ((k - n : Nat) : Int) = (k : Int) - n from by omega]
          go_wp2
          go_loopw [12] (fun i wr4 => ∃ (j : Nat) (L4 : List Value), n ≤ j ∧ j ≤ k ∧ i = .int .i64 j ∧ Hid (Win B3 j k L4) ∧ Hid (Row wr4 (B + 1) 25 L4) ∧ Hid (Row wr4 B2 38 [.slice (some ⟨B + 1, 0, none⟩) 1024 1024, .int .i64 j, .int .i64 ((k - j : Nat) : Int)]) ∧ Below B w wr4) (fun i _ => k - (intOf i).toNat)
          case atStart => exact ⟨n, _, Nat.le_refl _, hn1, rfl, HW, HL3, HQ3, hb3⟩
          case round =>
            clear HW HL3 HQ3 hb3
            obtain ⟨j, L4, hj1, hj2, rfl, hW, hL4, hQ4, hb4⟩ := hrel
            by_cases hlt : j < k
            · have hm := mask1024 (j + 1) (by omega)
              rw [show (j + 1) % 1024 = j + 1 from by omega] at hm
              have HM : Hid (bits .and .i64 ((j : Int) + 1) (((1024 : Nat) : Int) - 1) = ((j + 1 : Nat) : Int)) := hm
              clear hm
              have q1 : (j : Int) < (k : Int) := by omega
              go_wp2
              go_region_held3 (fun _ => True) (trivial) ((go_at_call 11; refine (pop_some B2 (B + 1) j 1024 (k - j) (j + 1) (.pointer (some ⟨B3, j * 4, none⟩)) L4 _ (by exact hQ4.out) (by exact hL4.out) (by omega) (by omega) (by omega) (by omega) (hW.out.2 j (by omega) hlt) HM.out (by have := HB.out; omega)).mono ?_; rintro e w5 ⟨rfl, ht5, hL5, hQ5⟩))
              have HW5 : Hid (Win B3 (j + 1) k (L4.set j (.pointer none))) := Win.step hW.out _
              have HL5 : Hid (Row w5 (B + 1) 25 (L4.set j (.pointer none))) := hL5
              have HQ5 : Hid (Row w5 B2 38 [.slice (some ⟨B + 1, 0, none⟩) 1024 1024, .int .i64 ((j + 1 : Nat) : Int), .int .i64 ((k - (j + 1) : Nat) : Int)]) := cast_row hQ5 rfl (by omega)
              have hb5 : Below B w w5 := ht5.below hb4.drew (by have := HB.out; simp; omega)
              clear hL5 hQ5 ht5
              go_wp2
              go_roundw
              case rel => exact ⟨j + 1, _, by omega, by omega, by go_num, HW5, HL5, HQ5, hb5⟩
              case measure => simp [intOf]; omega
            · obtain rfl : j = k := by omega
              have HE : Hid (Row wr B2 38 [.slice (some ⟨B + 1, 0, none⟩) 1024 1024, .int .i64 j, .int .i64 0]) := cast_row hQ4.out rfl (by omega)
              go_wp2_with fail
              refine (pop_empty B2 (B + 1) j 1024 _ HE.out).mono ?_
              rintro e w6 ⟨rfl, rfl⟩
              go_wp2_with fail
              refine (len_any B2 (B + 1) j 1024 0 _ HE.out).mono ?_
              rintro e w7 ⟨rfl, rfl⟩
              go_wp2
              go_ret
              exact ⟨rfl, hb4⟩

end Go.Proofs.Ybulkcuqq
