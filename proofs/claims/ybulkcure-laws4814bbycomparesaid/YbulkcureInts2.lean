/- slices.Delete, Equal, BinarySearchFunc at []int; the law's comparison: contracts. -/
import Derived.Test.YbulkcureInts
namespace Go.Proofs.Ybulkcure
open Go.RowKit Mem

attribute [local go_sem ↓] Go.wp_at_zero Go.wp_at_succ

def ints (zs : List Int) : List Value := zs.map (Value.int .i64)
theorem ints_len (zs : List Int) : (ints zs).length = zs.length := by simp [ints]
theorem ints_one (zs : List Int) : ∀ u ∈ ints zs, u.oneCell' = true := by
  intro u hu
  obtain ⟨z, _, rfl⟩ := List.mem_map.1 hu
  rfl
theorem ints_get (zs : List Int) (j : Nat) (h : j < zs.length) : (ints zs)[j]? = some (.int .i64 (zs[j])) := by simp [ints, h]

set_option maxHeartbeats 1000000 in
/-- 'slices.Delete(s, 0, d)', s in a row that is known whole, 0 < d -/
theorem delete_int (g m d cap : Nat) (Y R : List Value) (w : World) (hY : Y.length = m) (hr : Row w g 3 (Y ++ R)) (hl : (Y ++ R).length = cap) (h1 : ∀ u ∈ Y, u.oneCell' = true)
    (hd0 : 0 < d) (hd : d ≤ m) (hm : m ≤ 200000) :
    Calls Yba.prog 19 #[.slice (some ⟨g, 0, none⟩) m cap, .int .i64 0, .int .i64 d] w fun e w' =>
      e = .returned (.slice (some ⟨g, 0, none⟩) (m - d) cap) ∧ Ext [g] w w' ∧ ∃ R', Row w' g 3 (Y.drop d ++ R') := by
  obtain ⟨ti, hti, hz0, hz1, hz2⟩ := info_parts Yba.info3
  have hmc : m ≤ cap := by rw [← hl, List.length_append, hY]; omega
  obtain ⟨r, hr'⟩ : ∃ r, m - d = r := ⟨_, rfl⟩
  have q0 : ((0 : Int) == (d : Int)) = false := by simp; omega
  have s0 : ∀ w, (Instr.slice 25 (.slice (some ⟨g, 0, none⟩) m cap) (some (.int .i64 0)) (some (.int .i64 d)) (some (.int .i64 m))).run Yba.prog w = .ok (.slice (some ⟨g, 0, none⟩) d m) w := by
    intro w
    rw [run_slice_lhm w 25 _ m cap Yba.ue25 _ _ _ _ _ _ (by omega) (by omega) (by omega) (by omega), Yba.size3]
    simp [sliced, Addr.add]
  have s1 : ∀ w, (Instr.slice 25 (.slice (some ⟨g, 0, none⟩) m cap) none (some (.int .i64 0)) none).run Yba.prog w = .ok (.slice (some ⟨g, 0, none⟩) 0 cap) w := icut_h _ m cap 0 0 rfl (by omega)
  obtain ⟨A, hA⟩ : ∃ A, (if cap = d then some ⟨g, 0, none⟩ else (some (⟨g, 0, none⟩ : Addr)).map (fun x => x.add d)) = A := ⟨_, rfl⟩
  have s2 : ∀ w, (Instr.slice 25 (.slice (some ⟨g, 0, none⟩) m cap) (some (.int .i64 d)) none none).run Yba.prog w = .ok (.slice A r (cap - d)) w := by
    intro w
    rw [icut_l _ m cap d _ rfl hd, hA, hr']
  have s3 : ∀ w, (Instr.slice 25 (.slice (some ⟨g, 0, none⟩) r cap) (some (.int .i64 r)) (some (.int .i64 m)) none).run Yba.prog w = .ok (.slice (some ⟨g, r, none⟩) d (cap - r)) w := by
    have := icut_lh g 0 r cap r d (cap - r) r m rfl (by omega) (by omega) (by omega) (by omega)
    simpa using this
  have yd : (Y.drop d).length = r := by simp; omega
  have hseg : Seg w A (Y.drop d) := by
    by_cases h0 : r = 0
    · exact .inl (List.eq_nil_of_length_eq_zero (by omega))
    · rw [if_neg (by omega)] at hA
      rw [← hA]
      refine .inr ⟨g, d, by simp [add_flat], hr.lt, fun j u hu => ?_⟩
      rw [hr.cell]
      rw [List.getElem?_drop] at hu
      rw [List.getElem?_append_left]
      · exact hu
      · rcases Nat.lt_or_ge (d + j) Y.length with h | h
        · exact h
        · rw [List.getElem?_eq_none h] at hu; cases hu
  clear hA
  obtain ⟨R1, e1, el1⟩ := splice_end [] (Y.drop d) (Y ++ R) 0 rfl (by simp; omega)
  simp only [List.nil_append] at e1 el1
  have HSEG : Hid (Seg w A (Y.drop d)) := hseg
  have HR : Hid (Row w g 3 (Y ++ R)) := hr
  have HL : Hid ((Y.drop d).length = r * ti.size) := by rw [hz1, Nat.mul_one, yd]; rfl
  have H1 : Hid (∀ u ∈ Y.drop d, u.oneCell' = true) := fun u hu => h1 u (List.mem_of_mem_drop hu)
  have HF : Hid (0 + 0 * ti.size + (Y.drop d).length ≤ (Y ++ R).length) := by rw [yd, hl]; exact (by omega : 0 + 0 * ti.size + r ≤ cap)
  have HE : Hid (splice (Y ++ R) (0 + 0 * ti.size) (Y.drop d) = Y.drop d ++ R1) := by rw [Nat.zero_mul]; exact e1
  have HEL : Hid ((Y.drop d ++ R1).length = cap) := by rw [el1, hl]; rfl
  have i1 : (r : Int) ≤ m := by omega
  have HRC : Hid (0 + r ≤ cap) := (by omega : 0 + r ≤ cap)
  clear hseg e1 el1 yd
  go_enter Yba.func19, Yba.ntmps19
  go_wp2
  go_region_held3 (fun _ => True) (trivial) ((refine step_of_wp rfl (append_room_wp (.tmp 22) (.tmp 25) 25 rfl 3 ti Yba.underlying25 hti g 0 0 cap _ r _ (by rfl) (by rfl) (Y.drop d) HL.out (by exact HSEG.out) H1.out HRC.out 3 _ (by exact HR.out) HF.out ?_); intro w1 hx1 hs1 hr1))
  rw [HE.out] at hr1
  obtain ⟨cs, hcs, hcl⟩ := run_clear_some (P := Yba.prog) (w := w1) 25 3 ti _ Yba.underlying25 hti hz0 (by rw [hz1]; rfl) (by intro v hv; simp [Value.cells] at hv; subst hv; rfl) g r d (cap - r) hd0 (Y.drop d ++ R1) 3 hr1 (by rw [HEL.out, hz1]; omega)
  rw [hz1, Nat.mul_one] at hcs
  have yd : (Y.drop d).length = r := by have := HL.out; rw [hz1, Nat.mul_one] at this; exact this
  obtain ⟨R2, e2, el2⟩ := splice_end (Y.drop d) cs R1 r yd (by rw [HEL.out, hcs]; omega)
  rw [e2] at hcl
  obtain ⟨w2, hw2⟩ : ∃ w2, w1.setRow g (Y.drop d ++ (cs ++ R2)).toArray = w2 := ⟨_, rfl⟩
  have hx2 : Ext [g] w1 w2 := by rw [← hw2]; exact Ext.setRow _ _ _
  have hr2 : Row w2 g 3 (Y.drop d ++ (cs ++ R2)) := by rw [← hw2]; exact setRow_heap _ _ _ _ _ _ hr1
  rw [hw2] at hcl
  have HR2 : Hid (Row w2 g 3 (Y.drop d ++ (cs ++ R2))) := hr2
  clear hw2 hr1 hr2 e2 el2 hcs yd
  simp only [Nat.zero_add]
  go_wp2
  go_ret
  have hx1' : Ext [g] w w1 := ⟨hx1.os, hx1.tape, hx1.output, hx1.size, hx1.block⟩
  exact ⟨by rw [hr']; rfl, hx1'.trans hx2, _, HR2.out⟩

theorem seg_cell {w : World} {p : Option Addr} {zs : List Int} (h : Seg w p (ints zs)) (j : Nat) (hj : j < zs.length) : ∃ b o, p = some ⟨b, o, none⟩ ∧ w.cell? ⟨b, o + j, none⟩ = some (.int .i64 zs[j]) := by
  rcases h with h | ⟨b, o, h1, _, h3⟩
  · have := congrArg List.length h
    rw [ints_len] at this
    simp at this
    subst this
    simp at hj
  · exact ⟨b, o, h1, h3 j _ (ints_get zs j hj)⟩

set_option maxHeartbeats 400000 in
/-- 'slices.Equal(a, b)' of two that are equal -/
theorem equal_int (p q : Option Addr) (n c c' : Nat) (zs : List Int) (w : World) (hl : zs.length = n) (hn : n ≤ 200000) (hp : Seg w p (ints zs)) (hq : Seg w q (ints zs)) :
    Calls Yba.prog 10 #[.slice p n c, .slice q n c'] w fun e w' => e = .returned (.bool true) ∧ Ext [] w w' := by
  have HP : Hid (Seg w p (ints zs)) := hp
  have HQ : Hid (Seg w q (ints zs)) := hq
  clear hp hq
  have q0 : ((n : Int) != (n : Int)) = false := by simp
  go_enter Yba.func10, Yba.ntmps10
  go_wp2
  go_loopw [13] (fun i wr => ∃ k : Nat, k ≤ n ∧ i = .int .i64 k ∧ Ext [] w wr) (fun i _ => n - (intOf i).toNat)
  case atStart => exact ⟨0, Nat.zero_le _, rfl, Ext.refl _ _⟩
  case round =>
    obtain ⟨k, hk, rfl, hx⟩ := hrel
    by_cases hlt : k < n
    · obtain ⟨b, o, rfl, hc1⟩ := seg_cell (HP.out.keep hx) k (by omega)
      obtain ⟨b', o', rfl, hc2⟩ := seg_cell (HQ.out.keep hx) k (by omega)
      have q1 : (k : Int) < (n : Int) := by omega
      go_wp2
      go_quiet (fail)
      go_wp2
      go_roundw
      case rel => exact ⟨k + 1, by omega, by go_num, hx.drewN _⟩
      case measure => simp [intOf]; omega
    · go_wp2
      go_ret
      exact ⟨rfl, hx⟩

/-- the law's comparison -/
def cmp (a b : Int) : Int := if a < b then -1 else if b < a then 1 else 0

theorem cmp_any (a b : Int) (w : World) : Calls Yba.prog 8 #[.int .i64 a, .int .i64 b] w fun e w' => e = .returned (.int .i64 (cmp a b)) ∧ w = w' := by
  unfold cmp
  by_cases h : a < b
  · rw [if_pos h]
    go_enter Yba.func8, Yba.ntmps8
    go_wp2
    go_ret
    exact ⟨rfl, rfl⟩
  · rw [if_neg h]
    by_cases h2 : b < a
    · rw [if_pos h2]
      go_enter Yba.func8, Yba.ntmps8
      go_wp2
      go_ret
      exact ⟨rfl, rfl⟩
    · rw [if_neg h2]
      go_enter Yba.func8, Yba.ntmps8
      go_wp2
      go_ret
      exact ⟨rfl, rfl⟩

theorem clo_any (a b : Int) (w : World) : Calls Yba.prog 7 #[.int .i64 a, .int .i64 b] w fun e w' => e = .returned (.int .i64 (cmp a b)) ∧ w = w' := by
  go_enter Yba.func7, Yba.ntmps7
  go_wp2_with fail
  refine (cmp_any a b _).mono ?_
  rintro e w' ⟨rfl, rfl⟩
  go_wp2
  go_ret
  exact ⟨rfl, rfl⟩

/-- p is v's place in zs -/
def Place (zs : List Int) (v : Int) (p : Nat) : Prop := p ≤ zs.length ∧ (∀ k (h : k < zs.length), k < p → zs[k] < v) ∧ ∀ k (h : k < zs.length), p ≤ k → v ≤ zs[k]

/-- v stands at p -/
def hit (zs : List Int) (v : Int) (p : Nat) : Bool := decide (zs[p]? = some v)
theorem ret_two {a : Value} {x y : Bool} (h : x = y) : Ending.returned (.tuple #[a, .bool x]) = .returned (.tuple #[a, .bool y]) := by rw [h]

/-- zs ascends -/
def Asc (zs : List Int) : Prop := ∀ i j (hi : i < zs.length) (hj : j < zs.length), i < j → zs[i] < zs[j]

set_option maxHeartbeats 400000 in
theorem search_int (b o n cap : Nat) (F : Value) (v : Int) (zs : List Int) (w : World) (hl : zs.length = n) (hn : n ≤ 100000) (hs : Seg w (some ⟨b, o, none⟩) (ints zs)) (hz : Asc zs) (hF : F = .func (.func 7) #[] #[]) :
    Calls Yba.prog 17 #[.slice (some ⟨b, o, none⟩) n cap, .int .i64 v, F] w fun e w' => ∃ p : Nat, e = .returned (.tuple #[.int .i64 p, .bool (hit zs v p)]) ∧ Place zs v p ∧ Ext [] w w' := by
  subst hF
  have HS : Hid (Seg w (some ⟨b, o, none⟩) (ints zs)) := hs
  have HZ : Hid (Asc zs) := hz
  clear hs hz
  go_enter Yba.func17, Yba.ntmps17
  go_wp2
  go_loop [9, 10] (fun x y => ∃ i j : Nat, i ≤ j ∧ j ≤ n ∧ x = .int .i64 i ∧ y = .int .i64 j ∧ Hid ((∀ k (h : k < zs.length), k < i → zs[k] < v) ∧ ∀ k (h : k < zs.length), j ≤ k → v ≤ zs[k])) (fun x y => (intOf y).toNat - (intOf x).toNat)
  case atStart => exact ⟨0, n, Nat.zero_le _, Nat.le_refl _, rfl, rfl, fun k _ h => absurd h (by omega), fun k h1 h2 => absurd h1 (by omega)⟩
  case round =>
    obtain ⟨i, j, hij, hjn, rfl, rfl, hI⟩ := hrel
    by_cases hlt : i < j
    · obtain ⟨h, hh⟩ : ∃ h : Nat, (i + j) / 2 = h := ⟨_, rfl⟩
      have hh2 : i ≤ h ∧ h < j := by omega
      have hhI : ((i : Int) + j) / 2 = h := by omega
      have HH : Hid ((i + j) / 2 = h) := hh
      clear hh
      obtain ⟨b1, o1, e1, hc⟩ := seg_cell HS.out h (by omega)
      simp only [Option.some.injEq, Addr.mk.injEq, and_true] at e1
      obtain ⟨rfl, rfl⟩ := e1
      have q1 : (i : Int) < j := by omega
      have q2 : (j : Int) ≤ n := by omega
      have q3 : (n : Int) ≤ 100000 := by omega
      have q4 : (h : Int) < n := by omega
      obtain ⟨z, hzz⟩ : ∃ z, zs[h]'(by omega) = z := ⟨_, rfl⟩
      rw [hzz] at hc
      have HZZ : Hid (zs[h]'(by omega) = z) := hzz
      clear hzz
      by_cases hzv : z < v
      · have hcm : cmp z v < 0 := by unfold cmp; rw [if_pos hzv]; decide
        go_wp2_with (go_at_call 7; refine (clo_any z v _).mono ?_; rintro e w' ⟨rfl, rfl⟩)
        go_round
        case rel =>
          refine ⟨h + 1, j, by omega, hjn, by go_num, rfl, fun k hk hkh => ?_, hI.out.2⟩
          by_cases e : k = h
          · subst e; rw [HZZ.out]; exact hzv
          · have := HZ.out k h hk (by omega) (by omega)
            rw [HZZ.out] at this
            omega
        case measure => simp [intOf]; omega
      · have hcm : 0 ≤ cmp z v := by unfold cmp; rw [if_neg hzv]; split <;> decide
        go_wp2_with (go_at_call 7; refine (clo_any z v _).mono ?_; rintro e w' ⟨rfl, rfl⟩)
        go_round
        case rel =>
          refine ⟨i, h, by omega, by omega, rfl, rfl, hI.out.1, fun k hk hkh => ?_⟩
          by_cases e : k = h
          · subst e; rw [HZZ.out]; omega
          · have := HZ.out h k (by omega) hk (by omega)
            rw [HZZ.out] at this
            omega
        case measure => simp [intOf]; omega
    · obtain rfl : i = j := by omega
      have HP : Hid (Place zs v i) := ⟨by omega, hI.out.1, hI.out.2⟩
      by_cases hin : i < n
      · obtain ⟨b1, o1, e1, hc⟩ := seg_cell HS.out i (by omega)
        simp only [Option.some.injEq, Addr.mk.injEq, and_true] at e1
        obtain ⟨rfl, rfl⟩ := e1
        obtain ⟨z, hzz⟩ : ∃ z, zs[i]'(by omega) = z := ⟨_, rfl⟩
        rw [hzz] at hc
        have q2 : (i : Int) < n := by omega
        have HCM : Hid ((cmp z v == 0) = hit zs v i) := by
          have hle := hI.out.2 i (by omega) (Nat.le_refl _)
          rw [hzz] at hle
          show (cmp z v == 0) = hit zs v i
          unfold hit
          rw [List.getElem?_eq_getElem (by omega), hzz]
          by_cases e : z = v
          · subst e
            simp [cmp]
          · rw [decide_eq_false (by simpa using e)]
            unfold cmp
            rw [if_neg (by omega), if_pos (by omega)]
            decide
        clear hzz
        go_wp2_with (go_at_call 7; refine (clo_any z v _).mono ?_; rintro e w' ⟨rfl, rfl⟩)
        go_ret2
        exact ⟨i, ret_two HCM.out, HP.out, Ext.refl _ _⟩
      · have HCM : Hid (false = hit zs v i) := by
          show false = hit zs v i
          unfold hit
          rw [List.getElem?_eq_none (by omega)]
          rfl
        go_wp2_with fail
        go_ret2
        exact ⟨i, ret_two HCM.out, HP.out, Ext.refl _ _⟩

end Go.Proofs.Ybulkcure
