/- slices.Equal, the law's closure, BinarySearchFunc at []zzs4814bkv: contracts. -/
import Derived.Test.YbulkcureKvs
namespace Go.Proofs.Ybulkcure
open Go.RowKit Mem

attribute [local go_sem ↓] Go.wp_at_zero Go.wp_at_succ

/-- the cells of a list of keys and tags -/
def kvs (zs : List (Int × Int)) : List Value := zs.flatMap (fun e => [.int .i64 e.1, .int .i64 e.2])
theorem kvs_cons (e : Int × Int) (zs : List (Int × Int)) : kvs (e :: zs) = .int .i64 e.1 :: .int .i64 e.2 :: kvs zs := rfl
theorem kvs_append (a b : List (Int × Int)) : kvs (a ++ b) = kvs a ++ kvs b := by simp [kvs]
theorem kvs_len (zs : List (Int × Int)) : (kvs zs).length = zs.length * 2 := by
  induction zs with
  | nil => rfl
  | cons e zs ih => rw [kvs_cons]; simp [ih]; omega
theorem kvs_one (zs : List (Int × Int)) : ∀ u ∈ kvs zs, u.oneCell' = true := by
  intro u hu
  unfold kvs at hu
  obtain ⟨e, _, h⟩ := List.mem_flatMap.1 hu
  simp at h
  rcases h with rfl | rfl <;> rfl
theorem kvs_take (zs : List (Int × Int)) (p : Nat) : (kvs zs).take (p * 2) = kvs (zs.take p) := by
  induction zs generalizing p with
  | nil => simp [kvs]
  | cons e zs ih =>
    cases p with
    | zero => simp [kvs]
    | succ p => rw [show (p + 1) * 2 = p * 2 + 1 + 1 from by omega, kvs_cons, List.take_succ_cons, List.take_succ_cons, ih, List.take_succ_cons, kvs_cons]
theorem kvs_drop (zs : List (Int × Int)) (p : Nat) : (kvs zs).drop (p * 2) = kvs (zs.drop p) := by
  induction zs generalizing p with
  | nil => simp [kvs]
  | cons e zs ih =>
    cases p with
    | zero => simp
    | succ p => rw [show (p + 1) * 2 = p * 2 + 1 + 1 from by omega, kvs_cons, List.drop_succ_cons, List.drop_succ_cons, ih, List.drop_succ_cons]
theorem kvs_get (zs : List (Int × Int)) (j : Nat) (h : j < zs.length) : (kvs zs)[j * 2]? = some (.int .i64 zs[j].1) ∧ (kvs zs)[j * 2 + 1]? = some (.int .i64 zs[j].2) := by
  induction zs generalizing j with
  | nil => simp at h
  | cons e zs ih =>
    cases j with
    | zero => simp [kvs_cons]
    | succ j =>
      have := ih j (by simpa using h)
      rw [kvs_cons, show (j + 1) * 2 = j * 2 + 1 + 1 from by omega]
      simpa using this

theorem kseg_cell {w : World} {p : Option Addr} {zs : List (Int × Int)} (h : Seg w p (kvs zs)) (j : Nat) (hj : j < zs.length) :
    ∃ b o, p = some ⟨b, o, none⟩ ∧ b < w.heap.size ∧ w.cell? ⟨b, o + j * 2, none⟩ = some (.int .i64 zs[j].1) ∧ w.cell? ⟨b, o + j * 2 + 1, none⟩ = some (.int .i64 zs[j].2) := by
  have hg := kvs_get zs j hj
  rcases h with h | ⟨b, o, h1, h2, h3⟩
  · rw [h] at hg; simp at hg
  · refine ⟨b, o, h1, h2, h3 _ _ hg.1, ?_⟩
    have := h3 _ _ hg.2
    rwa [← Nat.add_assoc] at this

set_option maxHeartbeats 400000 in
/-- 'slices.Equal(a, b)' of two that are equal -/
theorem equal_kv (p q : Option Addr) (n c c' : Nat) (zs : List (Int × Int)) (w : World) (hl : zs.length = n) (hn : n ≤ 200000) (hp : Seg w p (kvs zs)) (hq : Seg w q (kvs zs)) :
    Calls Yba.prog 14 #[.slice p n c, .slice q n c'] w fun e w' => e = .returned (.bool true) ∧ Ext [] w w' := by
  have HP : Hid (Seg w p (kvs zs)) := hp
  have HQ : Hid (Seg w q (kvs zs)) := hq
  clear hp hq
  have q0 : ((n : Int) != (n : Int)) = false := by simp
  go_enter Yba.func14, Yba.ntmps14
  go_wp2
  go_loopw [13] (fun i wr => ∃ k : Nat, k ≤ n ∧ i = .int .i64 k ∧ Ext [] w wr) (fun i _ => n - (intOf i).toNat)
  case atStart => exact ⟨0, Nat.zero_le _, rfl, Ext.refl _ _⟩
  case round =>
    obtain ⟨k, hk, rfl, hx⟩ := hrel
    by_cases hlt : k < n
    · obtain ⟨b, o, rfl, _, hc1, hc2⟩ := kseg_cell (HP.out.keep hx) k (by omega)
      obtain ⟨b', o', rfl, _, hc3, hc4⟩ := kseg_cell (HQ.out.keep hx) k (by omega)
      have q1 : (k : Int) < (n : Int) := by omega
      generalize zs[k] = y at hc1 hc2 hc3 hc4
      obtain ⟨y1, y2⟩ := y
      simp only [] at hc1 hc2 hc3 hc4
      go_wp2
      go_quiet (fail)
      go_wp2
      go_roundw
      case rel => exact ⟨k + 1, by omega, by go_num, hx.drewN _⟩
      case measure => simp [intOf]; omega
    · go_wp2
      go_ret
      exact ⟨rfl, hx⟩

set_option maxHeartbeats 400000 in
/-- the law's closure: it counts, and it finds the arguments as they should be -/
theorem clo_kv (a ta b : Int) (Bc Bb c : Nat) (w : World) (hta : 0 ≤ ta) (hc : c ≤ 1000000) (hrc : Row w Bc 3 [.int .i64 c]) :
    Calls Yba.prog 12 #[.agg #[.int .i64 a, .int .i64 ta], .agg #[.int .i64 b, .int .i64 (-1)], .pointer (some ⟨Bc, 0, none⟩), .pointer (some ⟨Bb, 0, none⟩)] w fun e w' =>
      e = .returned (.int .i64 (cmp a b)) ∧ Ext [Bc] w w' ∧ Row w' Bc 3 [.int .i64 ((c + 1 : Nat) : Int)] := by
  have hlt := hrc.lt
  have hcc : w.cell? ⟨Bc, 0, none⟩ = some (.int .i64 c) := hrc.cell 0
  have hcf : w.frozen? ⟨Bc, 0, none⟩ = false := hrc.frozen 0
  have hq : (ta == -1) = false := by simp; omega
  have hci : (c : Int) ≤ 1000000 := by omega
  have hne1 : Bc ≠ w.heap.size := by omega
  have hne2 : Bc ≠ w.heap.size + 1 := by omega
  go_enter Yba.func12, Yba.ntmps12
  go_wp2_with fail
  refine (cmp_any a b _).mono ?_
  rintro e w' ⟨rfl, rfl⟩
  go_wp2
  go_ret
  refine ⟨rfl, (((Ext.refl [Bc] w).setCell (.inl (by simp)) _).alloc _).alloc _, ?_⟩
  have := ((hrc.setCell 0 (.int .i64 ((c : Int) + 1))).alloc (.cells #[.int .i64 a, .int .i64 ta] 34)).alloc (.cells #[.int .i64 b, .int .i64 (-1)] 34)
  rw [show ((c + 1 : Nat) : Int) = (c : Int) + 1 from by omega]
  exact this

/-- the keys -/
def keys (zs : List (Int × Int)) : List Int := zs.map (·.1)
theorem keys_len (zs : List (Int × Int)) : (keys zs).length = zs.length := by simp [keys]
theorem keys_get (zs : List (Int × Int)) (j : Nat) (h : j < (keys zs).length) : (keys zs)[j] = (zs[j]'(by simpa [keys] using h)).1 := by simp [keys]

set_option maxHeartbeats 1000000 in
theorem search_kv (b o n cap Bc Bb : Nat) (v : Int) (zs : List (Int × Int)) (w : World) (hl : zs.length = n) (hn : n ≤ 100000) (hs : Seg w (some ⟨b, o, none⟩) (kvs zs)) (hz : Asc (keys zs)) (ht : ∀ j (h : j < zs.length), 0 ≤ zs[j].2)
    (hrc : Row w Bc 3 [.int .i64 0]) (hbc : b ≠ Bc) :
    Calls Yba.prog 20 #[.slice (some ⟨b, o, none⟩) n cap, .agg #[.int .i64 v, .int .i64 (-1)], .func (.func 12) #[] #[.pointer (some ⟨Bc, 0, none⟩), .pointer (some ⟨Bb, 0, none⟩)]] w fun e w' =>
      ∃ p c : Nat, e = .returned (.tuple #[.int .i64 p, .bool (hit (keys zs) v p)]) ∧ Place (keys zs) v p ∧ Ext [Bc] w w' ∧ Row w' Bc 3 [.int .i64 c] ∧ (0 < n → 0 < c) := by
  have HS : Hid (Seg w (some ⟨b, o, none⟩) (kvs zs)) := hs
  have HZ : Hid (Asc (keys zs)) := hz
  have HT : Hid (∀ j (h : j < zs.length), 0 ≤ zs[j].2) := ht
  have HRC : Hid (Row w Bc 3 [.int .i64 0]) := hrc
  have hblt := hrc.lt
  clear hs hz ht hrc
  obtain ⟨B0, hB0⟩ : ∃ B0, w.heap.size = B0 := ⟨_, rfl⟩
  have HB0 : Hid (Row (w.alloc (.cells #[.int .i64 v, .int .i64 (-1)] 34)) B0 34 [.int .i64 v, .int .i64 (-1)]) := row_new hB0 34 [.int .i64 v, .int .i64 (-1)]
  go_enter Yba.func20, Yba.ntmps20
  go_wp2
  go_loopw [9, 10] (fun x y wr => ∃ i j c : Nat, i ≤ j ∧ j ≤ n ∧ c + (j - i) ≤ n ∧ (c = 0 → i = 0 ∧ j = n) ∧ x = .int .i64 i ∧ y = .int .i64 j ∧ Hid ((∀ k (h : k < (keys zs).length), k < i → (keys zs)[k] < v) ∧ ∀ k (h : k < (keys zs).length), j ≤ k → v ≤ (keys zs)[k]) ∧
      Hid (Ext [Bc] w wr) ∧ Hid (Row wr Bc 3 [.int .i64 c]) ∧ Hid (Row wr B0 34 [.int .i64 v, .int .i64 (-1)])) (fun x y _ => (intOf y).toNat - (intOf x).toNat)
  case atStart => exact ⟨0, n, 0, Nat.zero_le _, Nat.le_refl _, by omega, fun _ => ⟨rfl, rfl⟩, rfl, rfl, ⟨fun k _ h => absurd h (by omega), fun k h1 h2 => absurd h1 (by rw [keys_len]; omega)⟩, (Ext.refl _ _).alloc _, HRC.out.alloc _, HB0.out⟩
  case round =>
    clear HRC HB0
    obtain ⟨i, j, c, hij, hjn, hcn, hc0, rfl, rfl, hI, hX, hC, hV⟩ := hrel
    have hSw : Hid (Seg wr (some ⟨b, o, none⟩) (kvs zs)) := by
      rcases HS.out with h | ⟨b', o', h4, h5, h6⟩
      · exact .inl h
      · simp only [Option.some.injEq, Addr.mk.injEq, and_true] at h4
        obtain ⟨rfl, rfl⟩ := h4
        exact .inr ⟨b, o, rfl, Nat.lt_of_lt_of_le h5 hX.out.size, fun k u hu => (hX.out.cell h5 (by simp; omega)).trans (h6 k u hu)⟩
    have v0 : wr.cell? ⟨B0, 0, none⟩ = some (.int .i64 v) := hV.out.cell 0
    have v1 : wr.cell? ⟨B0, 1, none⟩ = some (.int .i64 (-1)) := hV.out.cell 1
    by_cases hlt : i < j
    · obtain ⟨h, hh⟩ : ∃ h : Nat, (i + j) / 2 = h := ⟨_, rfl⟩
      have hh2 : i ≤ h ∧ h < j := by omega
      have hhI : ((i : Int) + j) / 2 = h := by omega
      have HH : Hid ((i + j) / 2 = h) := hh
      clear hh
      obtain ⟨b1, o1, e1, hb1, hc1, hc2⟩ := kseg_cell hSw.out h (by omega)
      simp only [Option.some.injEq, Addr.mk.injEq, and_true] at e1
      obtain ⟨rfl, rfl⟩ := e1
      have q1 : (i : Int) < j := by omega
      have q2 : (j : Int) ≤ n := by omega
      have q3 : (n : Int) ≤ 100000 := by omega
      have q4 : (h : Int) < n := by omega
      have hyt := HT.out h (by omega)
      have hky : (keys zs)[h]'(by rw [keys_len]; omega) = (zs[h]'(by omega)).1 := keys_get zs h _
      generalize zs[h] = y at hc1 hc2 hyt hky
      obtain ⟨y1, y2⟩ := y
      simp only [] at hc1 hc2 hyt hky
      have HKY : Hid ((keys zs)[h]'(by rw [keys_len]; omega) = y1) := hky
      clear hky
      have hVl : B0 < wr.heap.size := hV.out.lt
      have hB0c : B0 ≠ Bc := by omega
      by_cases hzv : y1 < v
      · have hcm : cmp y1 v < 0 := by unfold cmp; rw [if_pos hzv]; decide
        go_wp2
        go_region_held3 (fun W => W.cell? ⟨b, o + h * 2, none⟩ = some (.int .i64 y1) ∧ W.cell? ⟨b, o + h * 2 + 1, none⟩ = some (.int .i64 y2) ∧ W.cell? ⟨B0, 0, none⟩ = some (.int .i64 v) ∧ W.cell? ⟨B0, 1, none⟩ = some (.int .i64 (-1))) (go_keep)
          ((go_at_call 12; refine (clo_kv y1 y2 v Bc Bb c _ hyt (by omega) (by exact hC.out)).mono ?_; rintro e w' ⟨rfl, hx', hr'⟩; have d1 := hx'.cell (a := ⟨b, o + h * 2, none⟩) hb1 (by simpa using hbc); have d2 := hx'.cell (a := ⟨b, o + h * 2 + 1, none⟩) hb1 (by simpa using hbc); have d3 := hx'.cell (a := ⟨B0, 0, none⟩) hVl (by simpa using hB0c); have d4 := hx'.cell (a := ⟨B0, 1, none⟩) hVl (by simpa using hB0c)))
        have HX' : Hid (Ext [Bc] w w') := hX.out.trans ⟨hx'.os, hx'.tape, hx'.output, hx'.size, hx'.block⟩
        have HV' : Hid (Row w' B0 34 [.int .i64 v, .int .i64 (-1)]) := Row.ext (w := wr) hV.out ⟨hx'.os, hx'.tape, hx'.output, hx'.size, hx'.block⟩ (by simpa using hB0c)
        have HC' : Hid (Row w' Bc 3 [.int .i64 ((c + 1 : Nat) : Int)]) := hr'
        clear hx' hr' d1 d2 d3 d4
        go_wp2
        go_roundw
        case rel =>
          refine ⟨h + 1, j, c + 1, by omega, hjn, by omega, fun h => by omega, by go_num, rfl, ⟨fun k hk hkh => ?_, hI.out.2⟩, HX', HC', HV'⟩
          by_cases e : k = h
          · subst e; rw [HKY.out]; exact hzv
          · have := HZ.out k h hk (by rw [keys_len]; omega) (by omega)
            rw [HKY.out] at this
            omega
        case measure => simp [intOf]; omega
      · have hcm : 0 ≤ cmp y1 v := by unfold cmp; rw [if_neg hzv]; split <;> decide
        go_wp2
        go_region_held3 (fun W => W.cell? ⟨b, o + h * 2, none⟩ = some (.int .i64 y1) ∧ W.cell? ⟨b, o + h * 2 + 1, none⟩ = some (.int .i64 y2) ∧ W.cell? ⟨B0, 0, none⟩ = some (.int .i64 v) ∧ W.cell? ⟨B0, 1, none⟩ = some (.int .i64 (-1))) (go_keep)
          ((go_at_call 12; refine (clo_kv y1 y2 v Bc Bb c _ hyt (by omega) (by exact hC.out)).mono ?_; rintro e w' ⟨rfl, hx', hr'⟩; have d1 := hx'.cell (a := ⟨b, o + h * 2, none⟩) hb1 (by simpa using hbc); have d2 := hx'.cell (a := ⟨b, o + h * 2 + 1, none⟩) hb1 (by simpa using hbc); have d3 := hx'.cell (a := ⟨B0, 0, none⟩) hVl (by simpa using hB0c); have d4 := hx'.cell (a := ⟨B0, 1, none⟩) hVl (by simpa using hB0c)))
        have HX' : Hid (Ext [Bc] w w') := hX.out.trans ⟨hx'.os, hx'.tape, hx'.output, hx'.size, hx'.block⟩
        have HV' : Hid (Row w' B0 34 [.int .i64 v, .int .i64 (-1)]) := Row.ext (w := wr) hV.out ⟨hx'.os, hx'.tape, hx'.output, hx'.size, hx'.block⟩ (by simpa using hB0c)
        have HC' : Hid (Row w' Bc 3 [.int .i64 ((c + 1 : Nat) : Int)]) := hr'
        clear hx' hr' d1 d2 d3 d4
        go_wp2
        go_roundw
        case rel =>
          refine ⟨i, h, c + 1, by omega, by omega, by omega, fun h => by omega, rfl, rfl, ⟨hI.out.1, fun k hk hkh => ?_⟩, HX', HC', HV'⟩
          by_cases e : k = h
          · subst e; rw [HKY.out]; omega
          · have := HZ.out h k (by rw [keys_len]; omega) hk (by omega)
            rw [HKY.out] at this
            omega
        case measure => simp [intOf]; omega
    · obtain rfl : i = j := by omega
      have HP : Hid (Place (keys zs) v i) := ⟨by rw [keys_len]; omega, hI.out.1, hI.out.2⟩
      by_cases hin : i < n
      · obtain ⟨b1, o1, e1, hb1, hc1, hc2⟩ := kseg_cell hSw.out i (by omega)
        simp only [Option.some.injEq, Addr.mk.injEq, and_true] at e1
        obtain ⟨rfl, rfl⟩ := e1
        have q2 : (i : Int) < n := by omega
        have q5 : decide ((i : Int) < n) = true := by simpa using q2
        have hyt := HT.out i (by omega)
        have hky : (keys zs)[i]'(by rw [keys_len]; omega) = (zs[i]'(by omega)).1 := keys_get zs i _
        generalize zs[i] = y at hc1 hc2 hyt hky
        obtain ⟨y1, y2⟩ := y
        simp only [] at hc1 hc2 hyt hky
        have HCM : Hid ((cmp y1 v == 0) = hit (keys zs) v i) := by
          have hle := hI.out.2 i (by rw [keys_len]; omega) (Nat.le_refl _)
          rw [hky] at hle
          show (cmp y1 v == 0) = hit (keys zs) v i
          unfold hit
          rw [List.getElem?_eq_getElem (by rw [keys_len]; omega), hky]
          by_cases e : y1 = v
          · subst e
            simp [cmp]
          · rw [decide_eq_false (by simpa using e)]
            unfold cmp
            rw [if_neg (by omega), if_pos (by omega)]
            decide
        clear hky
        have hVl : B0 < wr.heap.size := hV.out.lt
        have hB0c : B0 ≠ Bc := by omega
        go_wp2
        go_region_held3 (fun W => W.cell? ⟨b, o + i * 2, none⟩ = some (.int .i64 y1) ∧ W.cell? ⟨b, o + i * 2 + 1, none⟩ = some (.int .i64 y2) ∧ W.cell? ⟨B0, 0, none⟩ = some (.int .i64 v) ∧ W.cell? ⟨B0, 1, none⟩ = some (.int .i64 (-1))) (go_keep)
          ((go_at_call 12; refine (clo_kv y1 y2 v Bc Bb c _ hyt (by omega) (by exact hC.out)).mono ?_; rintro e w' ⟨rfl, hx', hr'⟩; have d1 := hx'.cell (a := ⟨b, o + i * 2, none⟩) hb1 (by simpa using hbc); have d2 := hx'.cell (a := ⟨b, o + i * 2 + 1, none⟩) hb1 (by simpa using hbc); have d3 := hx'.cell (a := ⟨B0, 0, none⟩) hVl (by simpa using hB0c); have d4 := hx'.cell (a := ⟨B0, 1, none⟩) hVl (by simpa using hB0c)))
        have HX' : Hid (Ext [Bc] w w') := hX.out.trans ⟨hx'.os, hx'.tape, hx'.output, hx'.size, hx'.block⟩
        have HC' : Hid (Row w' Bc 3 [.int .i64 ((c + 1 : Nat) : Int)]) := hr'
        clear hx' hr' d1 d2 d3 d4
        go_wp2
        go_ret2
        exact ⟨i, c + 1, ret_two HCM.out, HP.out, HX'.out, HC'.out, fun _ => by omega⟩
      · have HCM : Hid (false = hit (keys zs) v i) := by
          show false = hit (keys zs) v i
          unfold hit
          rw [List.getElem?_eq_none (by rw [keys_len]; omega)]
          rfl
        have q5 : decide ((i : Int) < n) = false := by simp; omega
        go_wp2
        go_quiet (fail)
        go_wp2
        go_ret2
        exact ⟨i, c, ret_two HCM.out, HP.out, hX.out.drewN _, hC.out.drewN _, fun h => by omega⟩

end Go.Proofs.Ybulkcure
