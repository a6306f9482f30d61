/- LawS4813AFront, walked. -/
import Derived.Test.YbulkcuqqFill
import Derived.LaidEqlPtr
namespace Go.Proofs.Ybulkcuqq
open Go.RowKit Mem

theorem Yba.info35 : (Yba.prog.info? 35).map (fun i => (i.zero, i.size, i.bytes)) = some (some (.agg #[.nilIface, .pointer none, .int .u32 0, .bool false]), 4, 32) := by kernel_rfl
theorem Yba.row25 : (Yba.prog.info? 25).map (fun i => (i.zero, i.size, i.bytes)) = some (some (.pointer none), 1, 8) := by kernel_rfl

/-- 'make([]G, n)': its cells are looked into nowhere. -/
theorem make_gs (n : Nat) (hn : n ≤ 1000000) : ∃ G : Array Value, ∀ w, (Instr.makeSlice 23 (.int .i64 (n : Int)) (.int .i64 (n : Int))).run Yba.prog w = .ok (.slice (some ⟨w.heap.size, 0, none⟩) n n) (w.alloc (.cells G 35)) := by
  obtain ⟨i, hi, hz0, hz1, hz2⟩ := info_parts Yba.info35
  refine ⟨madeCells (Value.agg #[.nilIface, .pointer none, .int .u32 0, .bool false]).cells (n * 4), fun w => ?_⟩
  have := run_make (P := Yba.prog) w 23 35 i _ Yba.underlying23 hi hz0 .i64 .i64 n n (by omega) (by omega) (by rw [hz2]; omega) (by omega)
  simp only [Int.toNat_natCast, hz1] at this
  exact this

/-- 'make([]*G, l, n)': n nils. -/
theorem make_ps (l n : Nat) (hl : l ≤ n) (hn : n ≤ 1000000) (w : World) : (Instr.makeSlice 24 (.int .i64 (l : Int)) (.int .i64 (n : Int))).run Yba.prog w = .ok (.slice (some ⟨w.heap.size, 0, none⟩) l n) (w.alloc (.cells (List.replicate n (Value.pointer none)).toArray 25)) := by
  obtain ⟨i, hi, hz0, hz1, hz2⟩ := info_parts Yba.row25
  have := run_make (P := Yba.prog) w 24 25 i _ Yba.underlying24 hi hz0 .i64 .i64 l n (by omega) (by omega) (by rw [hz2]; omega) (by omega)
  simp only [Int.toNat_natCast, hz1, Nat.mul_one] at this
  rw [this]
  have e : madeCells (Value.pointer none).cells n = (List.replicate n (Value.pointer none)).toArray := by
    apply Array.ext
    · simp [madeCells]
    · intro k h1 h2
      simp [madeCells, Value.cells, Nat.mod_one]
  rw [e]

/-- '&xs[i] != &xs[i]' -/
theorem neq_same (a : Addr) (w : World) : (binOp .neq 25 (.pointer (some a)) (.pointer (some a))).run Yba.prog w = .ok (.bool false) w := by
  obtain ⟨j, hj, _⟩ := info_parts Yba.info35
  have h : ∀ d : Nat, (Op.equalIn (d + 1) 25 (.pointer (some a)) (.pointer (some a))).run Yba.prog w = .ok true w := fun d => by
    simp [Op.equalIn, run_underlying Yba.underlying25, sizeOf, typeInfo, hj, run_sameAddr_same]
  simp only [binOp]
  simp [Op.equal, Op.maxDepth, h 9999]

theorem row_new {w : World} {B : Nat} (h : w.heap.size = B) (t : TypeId) (cur : List Value) : Row (w.alloc (.cells cur.toArray t)) B t cur := by subst h; exact Row.new w t cur
theorem row_some {w : World} {g : Nat} {t : TypeId} {cur : List Value} (h : Row w g t cur) {j : Nat} (hj : j < cur.length) : ∃ v, w.cell? ⟨g, j, none⟩ = some v := ⟨_, by rw [h.cell, List.getElem?_eq_getElem hj]⟩
theorem size_setCell (w : World) (a : Addr) (v : Value) : (w.setCell a v).heap.size = w.heap.size := by simp [World.setCell]
theorem size_alloc (w : World) (o : Obj) : (w.alloc o).heap.size = w.heap.size + 1 := by show (w.heap.push o).size = _; simp

set_option maxRecDepth 100000 in
set_option maxHeartbeats 2000000 in
theorem front_walk (a0 : Int) (a1 : Int) (a2 : Int) (a3 : Int) (a4 : Int) (w0 : 0 ≤ a0 ∧ a0 ≤ 255) (w1 : 0 ≤ a1 ∧ a1 ≤ 65535) (w2 : 0 ≤ a2 ∧ a2 ≤ 65535) (w3 : 0 ≤ a3 ∧ a3 ≤ 65535) (w4 : 0 ≤ a4 ∧ a4 ≤ 255) (w : World) :
    Calls Yba.prog 3 #[.int .u8 a0, .int .u16 a1, .int .u16 a2, .int .u16 a3, .int .u8 a4] w fun e w' => e = .returned (.bool true) ∧ Below w.heap.size w w' := by
  obtain ⟨E, hE⟩ : ∃ E : Int, a0 % 7 = E := ⟨_, rfl⟩
  have hE0 : 0 ≤ E ∧ E ≤ 6 := by omega
  obtain ⟨S, hS⟩ : ∃ S : Nat, 2 ^ E.toNat = S := ⟨_, rfl⟩
  have hS0 : 1 ≤ S ∧ S ≤ 64 := by
    rw [← hS]
    exact ⟨Nat.one_le_two_pow, by have := Nat.pow_le_pow_right (n := 2) (by omega) (show E.toNat ≤ 6 by omega); omega⟩
  have hSI : (2 : Int) ^ E.toNat = (S : Int) := by rw [← hS]; simp
  have hmask : ∀ x : Nat, x < 1000000 → bits .and .i64 (x : Int) ((S : Int) - 1) = ((x % S : Nat) : Int) := by
    intro x hx
    rw [← hS]
    exact i64_mask x _ (by omega) (by omega)
  have HM : Hid (∀ x : Nat, x < 1000000 → bits .and .i64 (x : Int) ((S : Int) - 1) = ((x % S : Nat) : Int)) := hmask
  clear hS hmask
  obtain ⟨h, hh⟩ : ∃ h : Nat, a1 % (S : Int) = h := ⟨(a1 % (S : Int)).toNat, by have := Int.emod_nonneg a1 (b := (S : Int)) (by omega); omega⟩
  have hh1 : h < S := by have := Int.emod_lt_of_pos a1 (b := (S : Int)) (by omega); omega
  obtain ⟨c, hc⟩ : ∃ c : Nat, a2 % ((S : Int) + 1) = c := ⟨(a2 % ((S : Int) + 1)).toNat, by have := Int.emod_nonneg a2 (b := (S : Int) + 1) (by omega); omega⟩
  have hc1 : c ≤ S := by have := Int.emod_lt_of_pos a2 (b := (S : Int) + 1) (by omega); omega
  obtain ⟨n, hn⟩ : ∃ n : Nat, a3 % ((c : Int) + 1) = n := ⟨(a3 % ((c : Int) + 1)).toNat, by have := Int.emod_nonneg a3 (b := (c : Int) + 1) (by omega); omega⟩
  have hn1 : n ≤ c := by have := Int.emod_lt_of_pos a3 (b := (c : Int) + 1) (by omega); omega
  obtain ⟨p, hp⟩ : ∃ p : Nat, a4 % 4 = p := ⟨(a4 % 4).toNat, by omega⟩
  have hp1 : p ≤ 3 := by omega
  obtain ⟨G, hG⟩ := make_gs S (by omega)
  have hBf := make_ps S S (by omega) (by omega)
  obtain ⟨Z, hZ⟩ : ∃ Z, List.replicate S (Value.pointer none) = Z := ⟨_, rfl⟩
  have HZ : Hid (Fill S h w.heap.size 0 Z) := by rw [← hZ]; exact Fill.zero _ _ _
  rw [hZ] at hBf
  clear hZ
  obtain ⟨B, hB⟩ : ∃ B : Nat, w.heap.size = B := ⟨_, rfl⟩
  rw [hB] at HZ ⊢
  have hneq := neq_same
  go_enter Yba.func3, Yba.ntmps3
  go_wp2
  rw [hh, hc, hn, hp, hE]
  clear hh hc hn hp hE hSI hE0
  go_loopw [18] (fun i wr => ∃ (k : Nat) (L : List Value), k ≤ c ∧ i = .int .i64 k ∧ Hid (Fill S h B k L) ∧ Hid (Row wr (B + 1) 25 L) ∧ Below B w wr ∧ wr.heap.size = B + 2) (fun i _ => c - (intOf i).toNat)
  case atStart =>
    refine ⟨0, Z, Nat.zero_le _, rfl, HZ, row_new (by rw [size_alloc, hB]) _ _, ((Below.refl _ _).alloc (by omega) _).alloc (by rw [size_alloc]; omega) _, by rw [size_alloc, size_alloc, hB]⟩
  case round =>
    obtain ⟨k, L, hk, rfl, hF, hR, hb, hz⟩ := hrel
    by_cases hlt : k < c
    · have hm := HM.out (h + k) (by omega)
      obtain ⟨m, hm2⟩ : ∃ m, (h + k) % S = m := ⟨_, rfl⟩
      have hm3 : m < S := by rw [← hm2]; exact Nat.mod_lt _ (by omega)
      rw [hm2, Int.natCast_add] at hm
      have HM2 : Hid ((h + k) % S = m) := hm2
      clear hm2
      obtain ⟨old, hcell⟩ := row_some hR.out (j := m) (by rw [hF.out.1]; exact hm3)
      have hfz : wr.frozen? ⟨B + 1, m, none⟩ = false := hR.out.frozen m
      go_wp2
      go_roundw
      case rel => exact ⟨k + 1, L.set m (elt B k), by omega, by go_num, by have := Fill.step hF.out hh1 (by omega); rw [HM2.out] at this; exact this, hR.out.setCell m _, hb.setCell (by simp) _, by rw [size_setCell]; exact hz⟩
      case measure => simp [intOf]; omega
    · obtain rfl : k = c := by omega
      clear hlt hk hG hBf HZ
      obtain ⟨G2, hG2⟩ := make_gs p (by omega)
      have hBf := make_ps p (p + n) (by omega) (by omega)
      obtain ⟨Z, hZ⟩ : ∃ Z, List.replicate (p + n) (Value.pointer none) = Z := ⟨_, rfl⟩
      have HZ : Hid (Z.length = p + n) := by rw [← hZ]; exact (List.length_replicate : _ = p + n)
      rw [hZ, Int.natCast_add] at hBf
      clear hZ
      obtain ⟨B2, hB2⟩ : ∃ B2, B + 2 = B2 := ⟨_, rfl⟩
      rw [hB2] at hz
      have HB2 : Hid (B + 2 = B2) := hB2
      clear hB2
      go_wp2
      obtain ⟨B3, hB3⟩ : ∃ B3, B2 + 1 = B3 := ⟨_, rfl⟩
      obtain ⟨B4, hB4⟩ : ∃ B4, B3 + 1 = B4 := ⟨_, rfl⟩
      rw [hB3, hB4]
      have HB : Hid (B + 2 = B2 ∧ B2 + 1 = B3 ∧ B3 + 1 = B4) := ⟨HB2.out, hB3, hB4⟩
      clear hB3 hB4 HB2 hBf hG2
      have HQ : Hid (∀ W : World, W.heap.size = B2 → Row (W.alloc (.cells #[.slice (some ⟨B + 1, 0, none⟩) S S, .int .i64 h, .int .i64 k] 38)) B2 38 [.slice (some ⟨B + 1, 0, none⟩) S S, .int .i64 h, .int .i64 k]) := fun W hW => row_new hW 38 [.slice (some ⟨B + 1, 0, none⟩) S S, .int .i64 h, .int .i64 k]
      go_loopw [22] (fun i wr2 => ∃ (k2 : Nat) (D : List Value), k2 ≤ p ∧ i = .int .i64 k2 ∧ Hid (Pre B3 k2 (p + n) D) ∧ Hid (Row wr2 B4 25 D) ∧ Hid (Row wr2 (B + 1) 25 L) ∧ Hid (Row wr2 B2 38 [.slice (some ⟨B + 1, 0, none⟩) S S, .int .i64 h, .int .i64 k]) ∧ Below B w wr2) (fun i _ => p - (intOf i).toNat)
      case atStart =>
        have := HB.out
        exact ⟨0, Z, Nat.zero_le _, rfl, Pre.zero _ _ _ HZ.out, row_new (by rw [size_alloc, size_alloc, hz]; omega) _ _, ((hR.out.alloc _).alloc _).alloc _, ((HQ.out _ hz).alloc _).alloc _, ((hb.alloc (by omega) _).alloc (by rw [size_alloc]; omega) _).alloc (by rw [size_alloc, size_alloc]; omega) _⟩
      case round =>
        clear hR hb hz HQ HZ
        obtain ⟨k2, D, hk2, rfl, hPr, hRD, hRL, hRQ, hb2⟩ := hrel
        by_cases hlt : k2 < p
        · obtain ⟨old, hcell⟩ := row_some hRD.out (j := k2) (by rw [hPr.out.1]; omega)
          have hfz := hRD.out.frozen k2
          go_wp2
          go_roundw
          case rel =>
            have := HB.out
            exact ⟨k2 + 1, D.set k2 (elt B3 k2), by omega, by go_num, Pre.step hPr.out (by omega), hRD.out.setCell k2 _, hRL.out.setCell_other (by simp; omega) _, hRQ.out.setCell_other (by simp; omega) _, hb2.setCell (by simp; omega) _⟩
          case measure => simp [intOf]; omega
        · obtain rfl : k2 = p := by omega
          clear hlt hk2
          obtain ⟨h', hh'⟩ : ∃ h' : Nat, (h + n) % S = h' := ⟨_, rfl⟩
          have hand := HM.out (h + n) (by omega)
          rw [hh', Int.natCast_add] at hand
          have hh2 : h' < S := by rw [← hh']; exact Nat.mod_lt _ (by omega)
          have HAND : Hid (bits .and .i64 ((h : Int) + n) ((S : Int) - 1) = h') := hand
          have HH' : Hid ((h + n) % S = h') := hh'
          clear hand hh'
          go_wp2_with fail
          refine (popFront_any B2 (B + 1) B4 k2 n h S k (k2 + n) h' L D _ hRQ.out hRL.out hRD.out hF.out.1 (by omega) hh1 hn1 hc1 (by omega) (by omega) hPr.out.1 HAND.out hF.out.oneCell (by have := HB.out; omega) (by have := HB.out; omega) (by have := HB.out; omega)).mono ?_
          rintro e w1 ⟨rfl, ht, hD1, hL1, hQ1⟩
          have hb3 : Below B w w1 := ht.below hb2 (by have := HB.out; simp; omega)
          have H3 : Hid (∀ i, i < k2 → w1.cell? ⟨B4, i, none⟩ = some (elt B3 i)) := fun i hi => by
            rw [hD1.cell, Ring.splice_get _ _ _ _ (by rw [Ring.front_length _ _ _ (by rw [hF.out.1]; omega), hPr.out.1]; exact Nat.le_refl _), if_pos hi]
            exact hPr.out.2 i hi
          have H4 : Hid (∀ j, j < n → w1.cell? ⟨B4, k2 + j, none⟩ = some (elt B j)) := fun j hj => by
            rw [hD1.cell, Ring.splice_get _ _ _ _ (by rw [Ring.front_length _ _ _ (by rw [hF.out.1]; omega), hPr.out.1]; exact Nat.le_refl _), if_neg (by omega), if_pos (by rw [Ring.front_length _ _ _ (by rw [hF.out.1]; omega)]; omega), Nat.add_sub_cancel_left]
            exact Fill.front hF.out hh1 hn1 hc1 j hj
          have H5 : Hid (w1.cell? ⟨B2, 0, none⟩ = some (.slice (some ⟨B + 1, 0, none⟩) S S) ∧ w1.cell? ⟨B2, 1, none⟩ = some (.int .i64 h') ∧ w1.cell? ⟨B2, 2, none⟩ = some (.int .i64 ((k : Int) - n))) := ⟨hQ1.cell 0, hQ1.cell 1, hQ1.cell 2⟩
          have H6 : Hid (∀ s, s < S → w1.cell? ⟨B + 1, s, none⟩ = some (if pos S h' s < k - n then elt B (n + pos S h' s) else .pointer none)) := fun s hs => by
            rw [hL1.cell, Fill.after hF.out hh1 hn1 hc1 s hs, HH'.out]
          clear hRQ hRL hRD hPr hF ht hD1 hL1 hQ1 hb2 HAND HM
          go_wp2
          go_loopw [24] (fun i wr3 => ∃ i3 : Nat, i3 ≤ k2 ∧ i = .int .i64 i3 ∧ Turn [] w1 wr3) (fun i _ => k2 - (intOf i).toNat)
          case atStart => exact ⟨0, Nat.zero_le _, rfl, Turn.refl _ _⟩
          case round =>
            obtain ⟨i3, hi3, rfl, ht3⟩ := hrel
            by_cases hlt : i3 < k2
            · have c3 := (ht3.cell (a := ⟨B4, i3, none⟩) (by simp)).trans (H3.out i3 hlt)
              unfold elt at c3
              have q1 : (i3 : Int) < (k2 : Int) := by omega
              have q2 : (i3 : Int) < (k2 : Int) + n := by omega
              go_wp2
              go_quiet (fail)
              go_wp2
              go_roundw
              case rel => exact ⟨i3 + 1, by omega, by go_num, ht3.drewN _⟩
              case measure => simp [intOf]; omega
            · clear H3
              go_wp2
              go_loopw [25] (fun i wr4 => ∃ j4 : Nat, j4 ≤ n ∧ i = .int .i64 j4 ∧ Turn [] w1 wr4) (fun i _ => n - (intOf i).toNat)
              case atStart => exact ⟨0, Nat.zero_le _, rfl, ht3⟩
              case round =>
                clear ht3
                obtain ⟨j4, hj4, rfl, ht4⟩ := hrel
                by_cases hlt : j4 < n
                · have c4 := (ht4.cell (a := ⟨B4, k2 + j4, none⟩) (by simp)).trans (H4.out j4 hlt)
                  unfold elt at c4
                  have q1 : (j4 : Int) < (n : Int) := by omega
                  have q2 : (j4 : Int) < (S : Int) := by omega
                  have q3 : (k2 : Int) + j4 < (k2 : Int) + n := by omega
                  go_wp2
                  go_quiet (fail)
                  go_wp2
                  go_roundw
                  case rel => exact ⟨j4 + 1, by omega, by go_num, ht4.drewN _⟩
                  case measure => simp [intOf]; omega
                · clear H4
                  obtain ⟨c5, c6, c7⟩ := H5.out
                  have d5 := (ht4.cell (a := ⟨B2, 0, none⟩) (by simp)).trans c5
                  have d6 := (ht4.cell (a := ⟨B2, 1, none⟩) (by simp)).trans c6
                  have d7 := (ht4.cell (a := ⟨B2, 2, none⟩) (by simp)).trans c7
                  clear c5 c6 c7
                  have hmod : ((h : Int) + n) % (S : Int) = h' := by rw [← Int.natCast_add, ← Int.natCast_emod, HH'.out]
                  go_wp2
                  go_quiet (fail)
                  go_wp2
                  clear d5 d6 d7 hmod
                  go_loopw [26] (fun i wr5 => ∃ s5 : Nat, s5 ≤ S ∧ i = .int .i64 s5 ∧ Turn [] w1 wr5) (fun i _ => S - (intOf i).toNat)
                  case atStart => exact ⟨0, Nat.zero_le _, rfl, ht4.drewN _⟩
                  case round =>
                    clear ht4
                    obtain ⟨s5, hs5, rfl, ht5⟩ := hrel
                    by_cases hlt : s5 < S
                    · obtain ⟨c5, c6, c7⟩ := H5.out
                      have d5 := (ht5.cell (a := ⟨B2, 0, none⟩) (by simp)).trans c5
                      have d6 := (ht5.cell (a := ⟨B2, 1, none⟩) (by simp)).trans c6
                      have d7 := (ht5.cell (a := ⟨B2, 2, none⟩) (by simp)).trans c7
                      clear c5 c6 c7
                      have c8 := (ht5.cell (a := ⟨B + 1, s5, none⟩) (by simp)).trans (H6.out s5 hlt)
                      have hpg := Fill.pos_go S h' s5 hh2 hlt
                      have hpl := Fill.pos_lt S h' s5 hh2 hlt
                      obtain ⟨P, hP⟩ : ∃ P, pos S h' s5 = P := ⟨_, rfl⟩
                      rw [hP] at hpg hpl c8
                      clear hP
                      have q0 : (s5 : Int) < (S : Int) := by omega
                      by_cases hPk : P < k - n
                      · rw [if_pos hPk] at c8
                        unfold elt at c8
                        have q1 : (P : Int) < (k : Int) - n := by omega
                        have q2 : (n : Int) + P < (S : Int) := by omega
                        go_wp2
                        go_quiet (fail)
                        go_wp2
                        go_roundw
                        case rel => exact ⟨s5 + 1, by omega, by go_num, ht5.drewN _⟩
                        case measure => simp [intOf]; omega
                      · rw [if_neg hPk] at c8
                        have q1 : ¬ (P : Int) < (k : Int) - n := by omega
                        go_wp2
                        go_roundw
                        case rel => exact ⟨s5 + 1, by omega, by go_num, ht5⟩
                        case measure => simp [intOf]; omega
                    · go_wp2
                      go_ret
                      exact ⟨rfl, ht5.below hb3 (by simp)⟩

end Go.Proofs.Ybulkcuqq
