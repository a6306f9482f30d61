/- LawS4838AAppends, walked. -/
import Derived.Test.YbulkcvecMarker
namespace Go.Proofs.Ybulkcvec
open Go.RowKit Mem

attribute [local go_sem ↓] Go.wp_at_zero Go.wp_at_succ

/-- 'make([]byte, l, c)' -/
theorem make_bs (l c : Nat) (hl : l ≤ c) (hc : c ≤ 1000000) (w : World) : (Instr.makeSlice 22 (.int .i64 (l : Int)) (.int .i64 (c : Int))).run Yba.prog w = .ok (.slice (some ⟨w.heap.size, 0, none⟩) l c) (w.alloc (.cells (List.replicate c (Value.int .u8 0)).toArray 5)) := by
  obtain ⟨i, hi, hz0, hz1, hz2⟩ := info_parts Yba.info5
  have := run_make (P := Yba.prog) w 22 5 i _ Yba.underlying22 hi hz0 .i64 .i64 l c (by omega) (by omega) (by rw [hz2]; omega) (by omega)
  simp only [Int.toNat_natCast, hz1, Nat.mul_one] at this
  rw [this]
  have e : madeCells (Value.int .u8 0).cells c = (List.replicate c (Value.int .u8 0)).toArray := by
    apply Array.ext
    · simp [madeCells]
    · intro k h1 h2
      simp [madeCells, Value.cells, Nat.mod_one]
  rw [e]

/-- dst's bytes -/
def bytes (z : Nat → Int) (n : Nat) : List Value := (List.range n).map (fun i => Value.int .u8 (z i))
theorem bytes_len (z : Nat → Int) (n : Nat) : (bytes z n).length = n := by simp [bytes]
theorem bytes_get (z : Nat → Int) (n i : Nat) (h : i < n) : (bytes z n)[i]? = some (.int .u8 (z i)) := by simp [bytes, h]
theorem bytes_some (z : Nat → Int) (n i : Nat) (u : Value) (h : (bytes z n)[i]? = some u) : i < n ∧ u = .int .u8 (z i) := by
  rcases Nat.lt_or_ge i n with k | k
  · rw [bytes_get z n i k] at h
    exact ⟨k, by simpa using h.symm⟩
  · rw [List.getElem?_eq_none (by rw [bytes_len]; exact k)] at h
    cases h

set_option maxRecDepth 100000 in
set_option maxHeartbeats 4000000 in
theorem appends_walk (a0 : Option Addr) (N cap0 : Nat) (n : Int) (sp : Nat) (z : Nat → Int) (w : World) (hN : N ≤ 4096) (hn : n ≤ 4096) (hn' : -9223372036854775808 ≤ n) (hsp : sp ≤ 255)
    (hcells : ∀ k, k < N → ∃ b off, a0 = some ⟨b, off, none⟩ ∧ b < w.heap.size ∧ w.cell? ⟨b, off + k, none⟩ = some (.int .u8 (z k)))
    (hseg : Seg w a0 (bytes z N)) :
    Calls Yba.prog 3 #[.slice a0 N cap0, .int .i64 n, .int .u8 (sp : Int)] w fun e w' => e = .returned (.bool true) ∧ Below w.heap.size w w' := by
  obtain ⟨ti, hti, hz0, hz1, hz2⟩ := info_parts Yba.info5
  have hmk := make_bs N (N + sp) (by omega) (by omega)
  obtain ⟨Z, hZ⟩ : ∃ Z, List.replicate (N + sp) (Value.int .u8 0) = Z := ⟨_, rfl⟩
  have HZ : Hid (Z.length = N + sp) := by rw [← hZ]; exact (List.length_replicate : _ = N + sp)
  rw [hZ, Int.natCast_add] at hmk
  clear hZ
  obtain ⟨B, hB⟩ : ∃ B : Nat, w.heap.size = B := ⟨_, rfl⟩
  have HC : Hid (∀ k, k < N → ∃ b off, a0 = some ⟨b, off, none⟩ ∧ b < w.heap.size ∧ w.cell? ⟨b, off + k, none⟩ = some (.int .u8 (z k))) := hcells
  clear hcells
  have q0 : ¬ (4096 : Int) < (N : Int) := by omega
  have q1 : ¬ (4096 : Int) < n := by omega
  -- the copy
  obtain ⟨R1, e1, el1⟩ := splice_end [] (bytes z N) Z 0 rfl (by rw [bytes_len, List.nil_append, HZ.out]; omega)
  simp only [List.nil_append] at e1 el1
  have hr0 : Row (w.alloc (.cells Z.toArray 5)) B 5 Z := row_new hB 5 Z
  have hcp := fun ty => run_copy_some (P := Yba.prog) (w := w.alloc (.cells Z.toArray 5)) 22 22 5 ty ti Yba.underlying22 hti (some ⟨B, 0, none⟩) a0 N (N + sp) N cap0 B 0 Z 5 hr0 (bytes z N) (by rw [hz1, bytes_len, Nat.mul_one]; exact (Nat.min_self N).symm) (hseg.keep ((Ext.refl [] w).alloc _)) (fun _ => rfl) (by rw [bytes_len, HZ.out]; omega) (by intro u hu; obtain ⟨j, _, rfl⟩ := List.mem_map.1 hu; rfl)
  rw [e1, show Nat.min N N = N from Nat.min_self N] at hcp
  obtain ⟨w2, hw2⟩ : ∃ w2, (w.alloc (.cells Z.toArray 5)).setRow B (bytes z N ++ R1).toArray = w2 := ⟨_, rfl⟩
  have hx2 : Ext [B] (w.alloc (.cells Z.toArray 5)) w2 := by rw [← hw2]; exact Ext.setRow _ _ _
  have HR2 : Hid (Row w2 B 5 (bytes z N ++ R1)) := by rw [← hw2]; exact setRow_heap _ _ _ _ _ _ hr0
  rw [hw2] at hcp
  have hb2 : Below B w w2 := hx2.below ((Below.refl B w).alloc (by omega) _) (by rw [size_alloc]; omega) (by simp)
  have HL2 : Hid ((bytes z N ++ R1).length = N + sp) := by rw [el1, HZ.out]; rfl
  clear hw2 hr0 hx2 e1 el1 hseg HZ
  rw [hB]
  go_enter Yba.func3, Yba.ntmps3
  go_wp2_with fail
  refine (marker_any B B N (N + sp) n (bytes z N) R1 w _ (bytes_len z N) HR2.out HL2.out (Nat.le_refl _) hb2 (by omega) (by omega)).mono ?_
  rintro e w3 ⟨g, cap', rfl, hS⟩
  have HS : Hid (St w B B (bytes z N) n.toNat g cap' w3) := hS
  clear hS hb2 HR2 HL2 hcp hmk
  by_cases hpos : 0 < n
  · obtain ⟨M, hM⟩ : ∃ M : Nat, n = M := ⟨n.toNat, by omega⟩
    subst hM
    rw [Int.toNat_natCast] at HS ⊢
    obtain ⟨R4, hR4, _⟩ := HS.out.row
    obtain ⟨R5, hR5⟩ := HS.out.old
    have H1 : Hid (∀ i, i < N → w3.cell? ⟨g, i, none⟩ = some (.int .u8 (z i))) := fun i hi => by
      rw [hR4.cell, List.append_assoc, List.getElem?_append_left (by rw [bytes_len]; exact hi)]
      exact bytes_get z N i hi
    have H2 : Hid (∀ i, N ≤ i → i < N + M → w3.cell? ⟨g, i, none⟩ = some (.int .u8 64)) := fun i h1 h2 => by
      rw [hR4.cell, List.append_assoc, List.getElem?_append_right (by rw [bytes_len]; exact h1), bytes_len, List.getElem?_append_left (by rw [ats_len]; omega)]
      unfold ats
      rw [List.getElem?_replicate, if_pos (by omega)]
    have H3 : Hid (∀ i, i < N → w3.cell? ⟨B, i, none⟩ = some (.int .u8 (z i))) := fun i hi => by
      rw [hR5.cell, List.getElem?_append_left (by rw [bytes_len]; exact hi)]
      exact bytes_get z N i hi
    have H4 : Hid (∀ k, k < N → ∃ b off, a0 = some ⟨b, off, none⟩ ∧ b < w3.heap.size ∧ w3.cell? ⟨b, off + k, none⟩ = some (.int .u8 (z k))) := fun k hk => by
      obtain ⟨b, off, ha, hbl, hc⟩ := HC.out k hk
      exact ⟨b, off, ha, Nat.lt_of_lt_of_le hbl HS.out.b.size, (HS.out.b.cell (by simpa [← hB] using hbl)).trans hc⟩
    have hb3 : Below B w w3 := HS.out.b
    have hgl : g < w3.heap.size := hR4.lt
    have hBl : B < w3.heap.size := hR5.lt
    clear hR4 hR5 HS HC
    go_wp2
    go_loopw [10] (fun i wr => ∃ k : Nat, k ≤ N ∧ i = .int .i64 k ∧ Ext [] w3 wr) (fun i _ => N - (intOf i).toNat)
    case atStart => exact ⟨0, Nat.zero_le _, rfl, Ext.refl _ _⟩
    case round =>
      obtain ⟨k, hk, rfl, hx⟩ := hrel
      by_cases hlt : k < N
      · obtain ⟨b, off, rfl, hbl, hc⟩ := H4.out k hlt
        have c1 := (hx.cell (a := ⟨b, off + k, none⟩) hbl (by simp)).trans hc
        have c2 := (hx.cell (a := ⟨g, k, none⟩) hgl (by simp)).trans (H1.out k hlt)
        have q2 : (k : Int) < N := by omega
        have q3 : (k : Int) < (N : Int) + M := by omega
        go_wp2
        go_quiet (fail)
        go_wp2
        go_roundw
        case rel => exact ⟨k + 1, by omega, by go_num, hx.drewN _⟩
        case measure => simp [intOf]; omega
      · go_wp2
        go_loopw [11] (fun i wr => ∃ k2 : Nat, N ≤ k2 ∧ k2 ≤ N + M ∧ i = .int .i64 k2 ∧ Ext [] w3 wr) (fun i _ => N + M - (intOf i).toNat)
        case atStart => exact ⟨N, Nat.le_refl _, by omega, rfl, hx⟩
        case round =>
          clear hx
          obtain ⟨k2, hk2, hk3, rfl, hx⟩ := hrel
          by_cases hlt2 : k2 < N + M
          · have c2 := (hx.cell (a := ⟨g, k2, none⟩) hgl (by simp)).trans (H2.out k2 hk2 hlt2)
            have q2 : (k2 : Int) < (N : Int) + M := by omega
            go_wp2
            go_roundw
            case rel => exact ⟨k2 + 1, by omega, by omega, by go_num, hx⟩
            case measure => simp [intOf]; omega
          · have q4 : ¬ (k2 : Int) < (N : Int) + M := by omega
            go_wp2
            go_loopw [12] (fun i wr => ∃ k3 : Nat, k3 ≤ N ∧ i = .int .i64 k3 ∧ Ext [] w3 wr) (fun i _ => N - (intOf i).toNat)
            case atStart => exact ⟨0, Nat.zero_le _, rfl, hx⟩
            case round =>
              clear hx
              obtain ⟨k3, hk4, rfl, hx⟩ := hrel
              by_cases hlt3 : k3 < N
              · obtain ⟨b, off, rfl, hbl, hc⟩ := H4.out k3 hlt3
                have c1 := (hx.cell (a := ⟨b, off + k3, none⟩) hbl (by simp)).trans hc
                have c2 := (hx.cell (a := ⟨B, k3, none⟩) hBl (by simp)).trans (H3.out k3 hlt3)
                have q2 : (k3 : Int) < N := by omega
                go_wp2
                go_quiet (fail)
                go_wp2
                go_roundw
                case rel => exact ⟨k3 + 1, by omega, by go_num, hx.drewN _⟩
                case measure => simp [intOf]; omega
              · go_wp2
                go_ret
                exact ⟨rfl, hx.below hb3 (by omega) (by simp)⟩
  · have hM : n.toNat = 0 := by omega
    rw [hM] at HS ⊢
    have q5 : ¬ (0 : Int) < n := hpos
    obtain ⟨R4, hR4, _⟩ := HS.out.row
    obtain ⟨R5, hR5⟩ := HS.out.old
    have H1 : Hid (∀ i, i < N → w3.cell? ⟨g, i, none⟩ = some (.int .u8 (z i))) := fun i hi => by
      rw [hR4.cell, List.append_assoc, List.getElem?_append_left (by rw [bytes_len]; exact hi)]
      exact bytes_get z N i hi
    have H2 : Hid (∀ i, N ≤ i → i < N + 0 → w3.cell? ⟨g, i, none⟩ = some (.int .u8 64)) := fun i h1 h2 => by
      rw [hR4.cell, List.append_assoc, List.getElem?_append_right (by rw [bytes_len]; exact h1), bytes_len, List.getElem?_append_left (by rw [ats_len]; omega)]
      unfold ats
      rw [List.getElem?_replicate, if_pos (by omega)]
    have H3 : Hid (∀ i, i < N → w3.cell? ⟨B, i, none⟩ = some (.int .u8 (z i))) := fun i hi => by
      rw [hR5.cell, List.getElem?_append_left (by rw [bytes_len]; exact hi)]
      exact bytes_get z N i hi
    have H4 : Hid (∀ k, k < N → ∃ b off, a0 = some ⟨b, off, none⟩ ∧ b < w3.heap.size ∧ w3.cell? ⟨b, off + k, none⟩ = some (.int .u8 (z k))) := fun k hk => by
      obtain ⟨b, off, ha, hbl, hc⟩ := HC.out k hk
      exact ⟨b, off, ha, Nat.lt_of_lt_of_le hbl HS.out.b.size, (HS.out.b.cell (by simpa [← hB] using hbl)).trans hc⟩
    have hb3 : Below B w w3 := HS.out.b
    have hgl : g < w3.heap.size := hR4.lt
    have hBl : B < w3.heap.size := hR5.lt
    clear hR4 hR5 HS HC
    go_wp2
    go_loopw [10] (fun i wr => ∃ k : Nat, k ≤ N ∧ i = .int .i64 k ∧ Ext [] w3 wr) (fun i _ => N - (intOf i).toNat)
    case atStart => exact ⟨0, Nat.zero_le _, rfl, Ext.refl _ _⟩
    case round =>
      obtain ⟨k, hk, rfl, hx⟩ := hrel
      by_cases hlt : k < N
      · obtain ⟨b, off, rfl, hbl, hc⟩ := H4.out k hlt
        have c1 := (hx.cell (a := ⟨b, off + k, none⟩) hbl (by simp)).trans hc
        have c2 := (hx.cell (a := ⟨g, k, none⟩) hgl (by simp)).trans (H1.out k hlt)
        have q2 : (k : Int) < N := by omega
        have q3 : (k : Int) < (N : Int) + 0 := by omega
        go_wp2
        go_quiet (fail)
        go_wp2
        go_roundw
        case rel => exact ⟨k + 1, by omega, by go_num, hx.drewN _⟩
        case measure => simp [intOf]; omega
      · go_wp2
        go_loopw [11] (fun i wr => ∃ k2 : Nat, N ≤ k2 ∧ k2 ≤ N + 0 ∧ i = .int .i64 k2 ∧ Ext [] w3 wr) (fun i _ => N + 0 - (intOf i).toNat)
        case atStart => exact ⟨N, Nat.le_refl _, by omega, rfl, hx⟩
        case round =>
          clear hx
          obtain ⟨k2, hk2, hk3, rfl, hx⟩ := hrel
          by_cases hlt2 : k2 < N + 0
          · omega
          · have q4 : ¬ (k2 : Int) < (N : Int) + 0 := by omega
            go_wp2
            go_loopw [12] (fun i wr => ∃ k3 : Nat, k3 ≤ N ∧ i = .int .i64 k3 ∧ Ext [] w3 wr) (fun i _ => N - (intOf i).toNat)
            case atStart => exact ⟨0, Nat.zero_le _, rfl, hx⟩
            case round =>
              clear hx
              obtain ⟨k3, hk4, rfl, hx⟩ := hrel
              by_cases hlt3 : k3 < N
              · obtain ⟨b, off, rfl, hbl, hc⟩ := H4.out k3 hlt3
                have c1 := (hx.cell (a := ⟨b, off + k3, none⟩) hbl (by simp)).trans hc
                have c2 := (hx.cell (a := ⟨B, k3, none⟩) hBl (by simp)).trans (H3.out k3 hlt3)
                have q2 : (k3 : Int) < N := by omega
                go_wp2
                go_quiet (fail)
                go_wp2
                go_roundw
                case rel => exact ⟨k3 + 1, by omega, by go_num, hx.drewN _⟩
                case measure => simp [intOf]; omega
              · go_wp2
                go_ret
                exact ⟨rfl, hx.below hb3 (by omega) (by simp)⟩

end Go.Proofs.Ybulkcvec
