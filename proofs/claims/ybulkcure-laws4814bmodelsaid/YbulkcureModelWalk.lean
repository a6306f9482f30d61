/- LawS4814BModel, walked. -/
import Derived.Test.YbulkcurePlain
namespace Go.Proofs.Ybulkcure
open Go.RowKit Mem

attribute [local go_sem ↓] Go.wp_at_zero Go.wp_at_succ

/-- 'make([]int, 0, n)' -/
theorem make_is (n : Nat) (hn : n ≤ 1000000) (w : World) : (Instr.makeSlice 25 (.int .i64 0) (.int .i64 (n : Int))).run Yba.prog w = .ok (.slice (some ⟨w.heap.size, 0, none⟩) 0 n) (w.alloc (.cells (List.replicate n (Value.int .i64 0)).toArray 3)) := by
  obtain ⟨i, hi, hz0, hz1, hz2⟩ := info_parts Yba.info3
  have := run_make (P := Yba.prog) w 25 3 i _ Yba.underlying25 hi hz0 .i64 .i64 0 n (by omega) (by omega) (by rw [hz2]; omega) (by omega)
  simp only [Int.toNat_natCast, hz1, Nat.mul_one] at this
  have e0 : (0 : Int).toNat = 0 := rfl
  rw [e0] at this
  rw [this]
  have e : madeCells (Value.int .i64 0).cells n = (List.replicate n (Value.int .i64 0)).toArray := by
    apply Array.ext
    · simp [madeCells]
    · intro k h1 h2
      simp [madeCells, Value.cells, Nat.mod_one]
  rw [e]

/-- the first k cells of L are the law's numbers -/
def Laid (x : Int) (z : Nat → Int) (k n : Nat) (L : List Value) : Prop := L.length = n ∧ ∀ i, i < k → L[i]? = some (.int .i64 (nth x z i))
theorem Laid.step {x : Int} {z : Nat → Int} {k n : Nat} {L : List Value} (h : Laid x z k n L) (hk : k < n) : Laid x z (k + 1) n (splice L k [.int .i64 (nth x z k)]) := by
  refine ⟨by rw [length_splice _ _ _ (by simp; have := h.1; omega)]; exact h.1, fun i hi => ?_⟩
  have hl := h.1
  unfold splice
  rw [List.getElem?_append]
  have : (L.take k).length = k := by simp; omega
  rw [this]
  by_cases e : i < k
  · rw [if_pos e, List.getElem?_take, if_pos e]; exact h.2 i e
  · have : i = k := by omega
    subst this
    rw [if_neg e]
    simp

theorem ints_push (M : List Int) (R : List Value) (u : Int) (n : Nat) (hl : (ints M ++ R).length = n) (h : M.length < n) : ∃ R', splice (ints M ++ R) M.length [.int .i64 u] = ints (M ++ [u]) ++ R' ∧ (ints (M ++ [u]) ++ R').length = n := by
  obtain ⟨R', e1, e2⟩ := splice_end (ints M) [.int .i64 u] R M.length (ints_len M) (by rw [hl]; simp; omega)
  have e3 : ints (M ++ [u]) ++ R' = ints M ++ ([Value.int .i64 u] ++ R') := by simp [ints]
  exact ⟨R', by rw [e1, e3], by rw [e3, e2, hl]⟩

/-- what stands while the model's merge M is laid: M's row, s, its clone, all that was there before -/
structure Inv (w : World) (B g0 Bm : Nat) (zs : List Int) (rest0 : List Value) (cap : Nat) (M : List Int) (wr : World) : Prop where
  m : ∃ R, Row wr Bm 3 (ints M ++ R) ∧ (ints M ++ R).length = cap
  s : Row wr B 3 (ints zs)
  o : Row wr g0 3 (ints zs ++ rest0)
  b : Below B w wr

theorem Inv.push {w : World} {B g0 Bm : Nat} {zs : List Int} {rest0 : List Value} {cap : Nat} {M : List Int} {wr w' : World} (h : Inv w B g0 Bm zs rest0 cap M wr) (ob : Obj) {R : List Value} (u : Int)
    (hl : (ints M ++ R).length = cap) (hM : M.length < cap) (h1 : B < g0) (h2 : g0 < Bm) (hx : Ext [Bm] (wr.alloc ob) w') (hr : Row w' Bm 3 (splice (ints M ++ R) (0 + M.length * 1) [.int .i64 u])) : Inv w B g0 Bm zs rest0 cap (M ++ [u]) w' := by
  rw [Nat.zero_add, Nat.mul_one] at hr
  obtain ⟨R', e1, e2⟩ := ints_push M R u cap hl hM
  rw [e1] at hr
  have hs := h.s.lt
  exact ⟨⟨R', hr, e2⟩, (h.s.alloc ob).ext hx (by simp; omega), (h.o.alloc ob).ext hx (by simp; omega), hx.below (h.b.alloc (by omega) ob) (by rw [size_alloc]; omega) (by simp; omega)⟩

set_option maxRecDepth 100000 in
set_option maxHeartbeats 4000000 in
theorem model_walk (x0 v0 : Int) (kp : Nat) (a1 : Option Addr) (N cap1 : Nat) (z : Nat → Int) (w : World) (hx : -128 ≤ x0 ∧ x0 ≤ 127) (hv : -32768 ≤ v0 ∧ v0 ≤ 32767) (hk : kp ≤ 255) (hN : N ≤ 1024)
    (hz : ∀ k, k < N → 0 ≤ z k ∧ z k ≤ 255) (hcells : ∀ k, k < N → ∃ b off, a1 = some ⟨b, off, none⟩ ∧ b < w.heap.size ∧ w.cell? ⟨b, off + k, none⟩ = some (.int .u8 (z k))) :
    Calls Yba.prog 3 #[.int .i8 x0, .slice a1 N cap1, .int .i16 v0, .int .u8 (kp : Int)] w fun e w' => e = .returned (.bool true) ∧ Below w.heap.size w w' := by
  obtain ⟨ti, hti, hz0, hz1, hz2⟩ := info_parts Yba.info3
  have hmk := make_is N (by omega)
  obtain ⟨Z, hZ⟩ : ∃ Z, List.replicate N (Value.int .i64 0) = Z := ⟨_, rfl⟩
  have HZ : Hid (Z.length = N) := by rw [← hZ]; exact (List.length_replicate : _ = N)
  rw [hZ] at hmk
  clear hZ
  obtain ⟨B, hB⟩ : ∃ B : Nat, w.heap.size = B := ⟨_, rfl⟩
  rw [hB]
  have HC : Hid (∀ k, k < N → ∃ b off, a1 = some ⟨b, off, none⟩ ∧ b < w.heap.size ∧ w.cell? ⟨b, off + k, none⟩ = some (.int .u8 (z k))) := hcells
  have HZZ : Hid (∀ k, k < N → 0 ≤ z k ∧ z k ≤ 255) := hz
  clear hcells hz
  have q0 : ¬ (1024 : Int) < (N : Int) := by omega
  go_enter Yba.func3, Yba.ntmps3
  go_wp2
  go_loopw [9, 10, 39] (fun s x i wr => ∃ (k : Nat) (L : List Value), k ≤ N ∧ s = .slice (some ⟨B, 0, none⟩) k N ∧ x = .int .i64 (nth x0 z k) ∧ i = .int .i64 k ∧ Hid (Laid x0 z k N L) ∧ Hid (Row wr B 3 L) ∧ Below B w wr ∧ B < wr.heap.size) (fun _ _ i _ => N - (intOf i).toNat)
  case atStart =>
    exact ⟨0, Z, Nat.zero_le _, rfl, rfl, rfl, ⟨HZ.out, fun i hi => absurd hi (by omega)⟩, row_new hB _ _, (Below.refl _ _).alloc (by omega) _, by rw [size_alloc]; omega⟩
  case round =>
    clear HZ hmk
    obtain ⟨k, L, hk1, rfl, rfl, rfl, hL, hR, hb, hsz⟩ := hrel
    by_cases hlt : k < N
    · obtain ⟨b, off, rfl, hbl, hc⟩ := HC.out k hlt
      have hc' : wr.cell? ⟨b, off + k, none⟩ = some (.int .u8 (z k)) := (hb.cell (by simpa [← hB] using hbl)).trans hc
      have hzk := HZZ.out k hlt
      have hnb := nth_bd x0 z N HZZ.out k hk1
      have q1 : (k : Int) < N := by omega
      go_wp2_with (at_builtin; refine Halt.out ?_)
      unfold Halt
      refine wpList_append_room rfl (.tmp 43) (.tmp 45) 25 rfl 3 ti Yba.underlying25 hti B 0 k N _ 1 1 rfl rfl [.int .i64 (nth x0 z k)] (by simp [hz1]) (Seg.ofRow (row_new rfl 3 [.int .i64 (nth x0 z k)]) 0 _ (by simp)) (by simp [Value.oneCell']) (by omega) 3 L (hR.out.alloc _) (by rw [hL.out.1, hz1]; simp; omega) ?_
      intro w1 hx1 hs1 hr1
      rw [hz1, Nat.mul_one, Nat.zero_add] at hr1
      have HR1 : Hid (Row w1 B 3 (splice L k [.int .i64 (nth x0 z k)])) := hr1
      have hb1 : Below B w w1 := hx1.below (hb.alloc (by omega) _) (by rw [size_alloc]; omega) (by simp)
      have hsz1 : B < w1.heap.size := by rw [hs1, size_alloc]; omega
      clear hr1 hx1 hs1
      go_wp2
      go_roundw
      case rel => exact ⟨k + 1, _, by omega, rfl, rfl, by go_num, Laid.step hL.out hlt, HR1, hb1, hsz1⟩
      case measure => simp [intOf]; omega
    · obtain rfl : k = N := by omega
      have eL := ints_nums x0 z k L hL.out.1 hL.out.2
      have hzl := nums_len x0 z k
      have hza := nums_asc x0 z k (fun j hj => (HZZ.out j hj).1)
      have hzb : ∀ j (h : j < (nums x0 z k).length), -1000000 ≤ (nums x0 z k)[j] ∧ (nums x0 z k)[j] ≤ 1000000 := by
        intro j hj
        rw [nums_get]
        have := nth_bd x0 z k HZZ.out j (by omega)
        omega
      generalize nums x0 z k = zs at eL hzl hza hzb
      subst eL
      have HR : Hid (Row wr B 3 (ints zs)) := hR.out
      have HA : Hid (Asc zs) := hza
      have HB : Hid (∀ j (h : j < zs.length), -1000000 ≤ zs[j] ∧ zs[j] ≤ 1000000) := hzb
      clear hL hR hza hzb HC HZZ
      go_wp2_with fail
      refine (clone_int B 0 k k (ints zs) _ (by rw [ints_len, hzl]) (Seg.ofRow HR.out 0 _ (fun j u hu => by rw [Nat.zero_add]; exact hu)) (by omega)).mono ?_
      rintro e w1 ⟨g0, cap0, rfl, hg0, hx1, rest0, hr0⟩
      have HR1 : Hid (Row w1 B 3 (ints zs)) := HR.out.ext hx1 (by simp)
      have HO : Hid (Row w1 g0 3 (ints zs ++ rest0)) := hr0
      have hb1 : Below B w w1 := hx1.below hb (by omega) (by simp)
      have hsz1 : B < w1.heap.size := Nat.lt_of_lt_of_le hsz hx1.size
      have hg1 : B < g0 ∧ g0 < w1.heap.size := ⟨by omega, hr0.lt⟩
      clear HR hr0 hx1 hb hsz hg0
      have hmk := make_is (k + 1) (by omega)
      obtain ⟨Z, hZ⟩ : ∃ Z, List.replicate (k + 1) (Value.int .i64 0) = Z := ⟨_, rfl⟩
      have HZ : Hid (Z.length = k + 1) := by rw [← hZ]; exact (List.length_replicate : _ = k + 1)
      rw [hZ, show ((k + 1 : Nat) : Int) = (k : Int) + 1 from by omega] at hmk
      clear hZ
      obtain ⟨Bm, hBm⟩ : ∃ Bm, w1.heap.size = Bm := ⟨_, rfl⟩
      rw [hBm] at hg1 hsz1
      go_wp2
      have hI0 : Inv w B g0 Bm zs rest0 (k + 1) [] (w1.alloc (.cells Z.toArray 3)) := ⟨⟨Z, row_new hBm _ _, by simpa [ints] using HZ.out⟩, HR1.out.alloc _, HO.out.alloc _, hb1.alloc (by omega) _⟩
      have HI0 : Hid (Inv w B g0 Bm zs rest0 (k + 1) [] (w1.alloc (.cells Z.toArray 3))) := hI0
      clear hI0 HR1 HO hb1 hmk HZ hBm
      go_loopw [16, 17, 18, 65] (fun pr pl m i wr2 => ∃ j : Nat, j ≤ k ∧ pr = .bool (met zs v0 j) ∧ pl = .bool (above zs v0 j) ∧ m = .slice (some ⟨Bm, 0, none⟩) (merge zs v0 j).length (k + 1) ∧ i = .int .i64 j ∧ Hid (Inv w B g0 Bm zs rest0 (k + 1) (merge zs v0 j) wr2)) (fun _ _ _ i _ => k - (intOf i).toNat)
      case atStart => exact ⟨0, Nat.zero_le _, rfl, rfl, rfl, rfl, HI0⟩
      case round =>
        clear HI0 hsz1
        obtain ⟨j, hj, rfl, rfl, rfl, rfl, hI⟩ := hrel
        have hml := merge_len zs v0 j (by omega)
        by_cases hlt : j < k
        · obtain ⟨y, hy⟩ : ∃ y, zs[j]'(by omega) = y := ⟨_, rfl⟩
          have hc : wr.cell? ⟨B, j, none⟩ = some (.int .i64 y) := by rw [hI.out.s.cell, ints_get zs j (by omega), hy]
          have hst : merge zs v0 (j + 1) = (if above zs v0 j = false ∧ v0 < y then merge zs v0 j ++ [v0] else merge zs v0 j) ++ [y] := by
            simp only [merge]
            rw [show zs.getD j 0 = y from by rw [← hy]; simp [show j < zs.length from by omega]]
          have hme := met_step zs v0 j (by omega)
          have hab := above_step zs v0 j (by omega)
          rw [hy] at hme hab
          have HST : Hid (merge zs v0 (j + 1) = (if above zs v0 j = false ∧ v0 < y then merge zs v0 j ++ [v0] else merge zs v0 j) ++ [y]) := hst
          have HME : Hid (met zs v0 (j + 1) = (met zs v0 j || (y == v0))) := hme
          have HAB : Hid (above zs v0 (j + 1) = (above zs v0 j || decide (v0 < y))) := hab
          have HML : Hid ((merge zs v0 j).length = j + if above zs v0 j = true then 1 else 0) := hml
          clear hst hme hab hy hml
          obtain ⟨R, hRm, hRl⟩ := hI.out.m
          have HRM : Hid (Row wr Bm 3 (ints (merge zs v0 j) ++ R)) := hRm
          have HRL : Hid ((ints (merge zs v0 j) ++ R).length = k + 1) := hRl
          clear hRm hRl
          have q1 : (j : Int) < k := by omega
          by_cases hyv : y = v0
          · have hb0 : (y == v0) = true := by simp [hyv]
            have hnl : ¬ v0 < y := by omega
            have eM : Hid (merge zs v0 (j + 1) = merge zs v0 j ++ [y]) := by rw [HST.out, if_neg (fun h => hnl h.2)]; rfl
            clear hyv
            cases hpl : above zs v0 j
            · have hlen : (merge zs v0 j).length = j := by rw [HML.out, hpl]; simp
              have hlenl : (merge zs v0 j).length ≤ k := by omega
              clear hlen
              go_wp2_with (at_builtin; refine Halt.out ?_)
              unfold Halt
              refine wpList_append_room rfl (.tmp 83) (.tmp 85) 25 rfl 3 ti Yba.underlying25 hti Bm 0 (merge zs v0 j).length (k + 1) _ 1 1 rfl rfl [.int .i64 y] (by simp [hz1]) (Seg.ofRow (row_new rfl 3 [.int .i64 y]) 0 _ (by simp)) (by simp [Value.oneCell']) (by omega) 3 (ints (merge zs v0 j) ++ R) (HRM.out.alloc _) (by rw [HRL.out, hz1]; simp; omega) ?_
              intro w2 hx1 hs1 hr1
              rw [hz1] at hr1
              have hI2 := Inv.push hI.out _ y HRL.out (by omega) hg1.1 hg1.2 hx1 hr1
              have HI2 : Hid (Inv w B g0 Bm zs rest0 (k + 1) (merge zs v0 j ++ [y]) w2) := hI2
              clear hI2 hr1 hx1 hs1
              go_wp2
              go_roundw
              case rel => exact ⟨j + 1, by omega, congrArg Value.bool (by rw [HME.out]; simp [hb0]), congrArg Value.bool (by rw [HAB.out]; simp [hpl, hnl]), by rw [eM.out]; simp, by go_num, by rw [eM.out]; exact HI2⟩
              case measure => simp [intOf]; omega
            · have hlen : (merge zs v0 j).length = j + 1 := by rw [HML.out, hpl]; simp
              have hlenl : (merge zs v0 j).length ≤ k := by omega
              clear hlen
              go_wp2_with (at_builtin; refine Halt.out ?_)
              unfold Halt
              refine wpList_append_room rfl (.tmp 83) (.tmp 85) 25 rfl 3 ti Yba.underlying25 hti Bm 0 (merge zs v0 j).length (k + 1) _ 1 1 rfl rfl [.int .i64 y] (by simp [hz1]) (Seg.ofRow (row_new rfl 3 [.int .i64 y]) 0 _ (by simp)) (by simp [Value.oneCell']) (by omega) 3 (ints (merge zs v0 j) ++ R) (HRM.out.alloc _) (by rw [HRL.out, hz1]; simp; omega) ?_
              intro w2 hx1 hs1 hr1
              rw [hz1] at hr1
              have hI2 := Inv.push hI.out _ y HRL.out (by omega) hg1.1 hg1.2 hx1 hr1
              have HI2 : Hid (Inv w B g0 Bm zs rest0 (k + 1) (merge zs v0 j ++ [y]) w2) := hI2
              clear hI2 hr1 hx1 hs1
              go_wp2
              go_roundw
              case rel => exact ⟨j + 1, by omega, congrArg Value.bool (by rw [HME.out]; simp [hb0]), congrArg Value.bool (by rw [HAB.out]; simp [hpl]), by rw [eM.out]; simp, by go_num, by rw [eM.out]; exact HI2⟩
              case measure => simp [intOf]; omega
          · have hb0 : (y == v0) = false := by simp [hyv]
            cases hpl : above zs v0 j
            · have hlen : (merge zs v0 j).length = j := by rw [HML.out, hpl]; simp
              have hlenl : (merge zs v0 j).length < k := by omega
              clear hlen
              by_cases hvy : v0 < y
              · have eM : Hid (merge zs v0 (j + 1) = merge zs v0 j ++ [v0] ++ [y]) := by rw [HST.out, if_pos ⟨hpl, hvy⟩]; rfl
                go_wp2_with (at_builtin; refine Halt.out ?_)
                unfold Halt
                refine wpList_append_room rfl (.tmp 79) (.tmp 81) 25 rfl 3 ti Yba.underlying25 hti Bm 0 (merge zs v0 j).length (k + 1) _ 1 1 rfl rfl [.int .i64 v0] (by simp [hz1]) (Seg.ofRow (row_new rfl 3 [.int .i64 v0]) 0 _ (by simp)) (by simp [Value.oneCell']) (by omega) 3 (ints (merge zs v0 j) ++ R) (HRM.out.alloc _) (by rw [HRL.out, hz1]; simp; omega) ?_
                intro w2 hx1 hs1 hr1
                rw [hz1] at hr1
                have hI2 := Inv.push hI.out _ v0 HRL.out (by omega) hg1.1 hg1.2 hx1 hr1
                obtain ⟨R2, hRm2, hRl2⟩ := hI2.m
                have HI2 : Hid (Inv w B g0 Bm zs rest0 (k + 1) (merge zs v0 j ++ [v0]) w2) := hI2
                have HRM2 : Hid (Row w2 Bm 3 (ints (merge zs v0 j ++ [v0]) ++ R2)) := hRm2
                have HRL2 : Hid ((ints (merge zs v0 j ++ [v0]) ++ R2).length = k + 1) := hRl2
                clear hI2 hr1 hx1 hs1 hRm2 hRl2
                go_wp2_with (at_builtin; refine Halt.out ?_)
                unfold Halt
                refine wpList_append_room rfl (.tmp 83) (.tmp 85) 25 rfl 3 ti Yba.underlying25 hti Bm 0 ((merge zs v0 j).length + 1) (k + 1) _ 1 1 rfl rfl [.int .i64 y] (by simp [hz1]) (Seg.ofRow (row_new rfl 3 [.int .i64 y]) 0 _ (by simp)) (by simp [Value.oneCell']) (by omega) 3 (ints (merge zs v0 j ++ [v0]) ++ R2) (HRM2.out.alloc _) (by rw [HRL2.out, hz1]; simp; omega) ?_
                intro w3 hx1 hs1 hr1
                rw [hz1, show (merge zs v0 j).length + 1 = (merge zs v0 j ++ [v0]).length from by simp] at hr1
                have hI3 := Inv.push HI2.out _ y HRL2.out (by simp; omega) hg1.1 hg1.2 hx1 hr1
                have HI3 : Hid (Inv w B g0 Bm zs rest0 (k + 1) (merge zs v0 j ++ [v0] ++ [y]) w3) := hI3
                clear hI3 hr1 hx1 hs1
                go_wp2
                go_roundw
                case rel => exact ⟨j + 1, by omega, congrArg Value.bool (by rw [HME.out, hb0]; simp), congrArg Value.bool (by rw [HAB.out]; simp [hvy]), by rw [eM.out]; simp, by go_num, by rw [eM.out]; exact HI3⟩
                case measure => simp [intOf]; omega
              · have eM : Hid (merge zs v0 (j + 1) = merge zs v0 j ++ [y]) := by rw [HST.out, if_neg (fun h => hvy h.2)]; rfl
                go_wp2_with (at_builtin; refine Halt.out ?_)
                unfold Halt
                refine wpList_append_room rfl (.tmp 83) (.tmp 85) 25 rfl 3 ti Yba.underlying25 hti Bm 0 (merge zs v0 j).length (k + 1) _ 1 1 rfl rfl [.int .i64 y] (by simp [hz1]) (Seg.ofRow (row_new rfl 3 [.int .i64 y]) 0 _ (by simp)) (by simp [Value.oneCell']) (by omega) 3 (ints (merge zs v0 j) ++ R) (HRM.out.alloc _) (by rw [HRL.out, hz1]; simp; omega) ?_
                intro w2 hx1 hs1 hr1
                rw [hz1] at hr1
                have hI2 := Inv.push hI.out _ y HRL.out (by omega) hg1.1 hg1.2 hx1 hr1
                have HI2 : Hid (Inv w B g0 Bm zs rest0 (k + 1) (merge zs v0 j ++ [y]) w2) := hI2
                clear hI2 hr1 hx1 hs1
                go_wp2
                go_roundw
                case rel => exact ⟨j + 1, by omega, congrArg Value.bool (by rw [HME.out]; simp [hb0]), congrArg Value.bool (by rw [HAB.out]; simp [hpl, hvy]), by rw [eM.out]; simp, by go_num, by rw [eM.out]; exact HI2⟩
                case measure => simp [intOf]; omega
            · have hlen : (merge zs v0 j).length = j + 1 := by rw [HML.out, hpl]; simp
              have hlenl : (merge zs v0 j).length ≤ k := by omega
              clear hlen
              have eM : Hid (merge zs v0 (j + 1) = merge zs v0 j ++ [y]) := by rw [HST.out, if_neg (fun h => by rw [hpl] at h; exact absurd h.1 (by decide))]; rfl
              go_wp2_with (at_builtin; refine Halt.out ?_)
              unfold Halt
              refine wpList_append_room rfl (.tmp 83) (.tmp 85) 25 rfl 3 ti Yba.underlying25 hti Bm 0 (merge zs v0 j).length (k + 1) _ 1 1 rfl rfl [.int .i64 y] (by simp [hz1]) (Seg.ofRow (row_new rfl 3 [.int .i64 y]) 0 _ (by simp)) (by simp [Value.oneCell']) (by omega) 3 (ints (merge zs v0 j) ++ R) (HRM.out.alloc _) (by rw [HRL.out, hz1]; simp; omega) ?_
              intro w2 hx1 hs1 hr1
              rw [hz1] at hr1
              have hI2 := Inv.push hI.out _ y HRL.out (by omega) hg1.1 hg1.2 hx1 hr1
              have HI2 : Hid (Inv w B g0 Bm zs rest0 (k + 1) (merge zs v0 j ++ [y]) w2) := hI2
              clear hI2 hr1 hx1 hs1
              go_wp2
              go_roundw
              case rel => exact ⟨j + 1, by omega, congrArg Value.bool (by rw [HME.out]; simp [hb0]), congrArg Value.bool (by rw [HAB.out]; simp [hpl]), by rw [eM.out]; simp, by go_num, by rw [eM.out]; exact HI2⟩
              case measure => simp [intOf]; omega
        · obtain rfl : j = k := by omega
          clear hlt hj
          have HML : Hid ((merge zs v0 j).length = j + if above zs v0 j = true then 1 else 0) := hml
          clear hml
          cases hpr : met zs v0 j
          · have HPR : Hid (met zs v0 j = false) := hpr
            cases hpl : above zs v0 j
            · have hlen : (merge zs v0 j).length = j := by rw [HML.out, hpl]; simp
              have hlenl : (merge zs v0 j).length ≤ j := by omega
              obtain ⟨R, hRm, hRl⟩ := hI.out.m
              have HRM : Hid (Row wr Bm 3 (ints (merge zs v0 j) ++ R)) := hRm
              have HRL : Hid ((ints (merge zs v0 j) ++ R).length = j + 1) := hRl
              clear hRm hRl hlen
              go_wp2_with (at_builtin; refine Halt.out ?_)
              unfold Halt
              refine wpList_append_room rfl (.tmp 94) (.tmp 96) 25 rfl 3 ti Yba.underlying25 hti Bm 0 (merge zs v0 j).length (j + 1) _ 1 1 rfl rfl [.int .i64 v0] (by simp [hz1]) (Seg.ofRow (row_new rfl 3 [.int .i64 v0]) 0 _ (by simp)) (by simp [Value.oneCell']) (by omega) 3 (ints (merge zs v0 j) ++ R) (HRM.out.alloc _) (by rw [HRL.out, hz1]; simp; omega) ?_
              intro w2 hx1 hs1 hr1
              rw [hz1] at hr1
              have hI2 := Inv.push hI.out _ v0 HRL.out (by omega) hg1.1 hg1.2 hx1 hr1
              obtain ⟨MM, hMM⟩ : ∃ MM, merge zs v0 j ++ [v0] = MM := ⟨_, rfl⟩
              have HMM : Hid (∀ p, Place zs v0 p → hit zs v0 p = false → MM = ins zs v0 p) := fun p h1 h2 => by have := merge_all h1 h2; rw [hzl, hpl, if_neg (by decide), hMM] at this; exact this
              have eml : (merge zs v0 j).length + 1 = MM.length := by rw [← hMM]; simp
              rw [hMM] at hI2
              rw [eml]
              have HI : Hid (Inv w B g0 Bm zs rest0 (j + 1) MM w2) := hI2
              clear hMM hI hI2 hr1 hx1 hs1 eml HRM HRL
              go_wp2_with fail
              refine (kept_int B 0 j kp v0 zs _ hzl (by omega) (by omega) (Seg.ofRow HI.out.s 0 _ (fun j u hu => by rw [Nat.zero_add]; exact hu)) HA.out).mono ?_
              rintro e w4 ⟨p, hP, hx4, hcase⟩
              have hmp := met_place hP HA.out
              rw [hzl, HPR.out] at hmp
              rcases hcase with ⟨h1, _⟩ | ⟨hh, g, cap, R, rfl, hg, hr4⟩
              · rw [h1] at hmp; cases hmp
              have eM := HMM.out p hP hh
              have HM4 : Hid (∃ R, Row w4 Bm 3 (ints (ins zs v0 p) ++ R) ∧ (ints (ins zs v0 p) ++ R).length = j + 1) := by
                obtain ⟨R, h1, h2⟩ := HI.out.m
                rw [eM] at h1 h2
                exact ⟨R, h1.ext hx4 (by simp), h2⟩
              have hb4 : Below B w w4 := hx4.below HI.out.b (by have := HI.out.s.lt; omega) (by simp)
              have HI4 : Hid (B < w4.heap.size) := Nat.lt_of_lt_of_le HI.out.s.lt hx4.size
              obtain ⟨t, ht⟩ : ∃ t, decide (j + 1 - kp ≤ p) = t := ⟨_, rfl⟩
              have hkp := kept_place hP HA.out hh (j + 1 - kp)
              rw [ht] at hkp ⊢
              obtain ⟨E, hE⟩ : ∃ E, (ins zs v0 p).drop (j + 1 - kp) = E := ⟨_, rfl⟩
              have hil := ins_len zs v0 p (by rw [hzl]; have := hP.1; omega)
              have hEl : E.length = j + 1 - (j + 1 - kp) := by rw [← hE, List.length_drop, hil, hzl]
              have HG4 : Hid (Row w4 g 3 (ints E ++ R)) := by rw [← hE]; exact hr4
              have HT : Hid (E.any (· == v0) = t) := by rw [← hE]; exact hkp
              have HE : Hid ((ins zs v0 p).drop (j + 1 - kp) = E) := hE
              have HMl : Hid (MM.length = j + 1) := by rw [eM, hil, hzl]; rfl
              clear hr4 hkp hE ht hmp eM HI hil HMM hg
              have HSG : Hid (Seg w4 (some ⟨g, 0, none⟩) (ints E)) := Seg.ofRow HG4.out 0 _ (fun j u hu => by rw [Nat.zero_add, List.getElem?_append_left (by rcases Nat.lt_or_ge j (ints E).length with h | h; exact h; rw [List.getElem?_eq_none h] at hu; cases hu)]; exact hu)
              obtain ⟨R5, hr5, hl5⟩ := HM4.out
              have HR5 : Hid (Row w4 Bm 3 (ints (ins zs v0 p) ++ R5)) := hr5
              have HL5 : Hid ((ints (ins zs v0 p) ++ R5).length = j + 1) := hl5
              clear hr5 hl5 HM4
              by_cases hd : kp < j + 1
              · obtain ⟨D, hD⟩ : ∃ D, j + 1 - kp = D := ⟨_, rfl⟩
                rw [hD] at hEl HE ⊢
                obtain ⟨n2, hn2⟩ : ∃ n2, j + 1 - D = n2 := ⟨_, rfl⟩
                rw [hn2] at hEl ⊢
                have hn2b : n2 ≤ 2000 := by omega
                have hq : (j : Int) + 1 - kp = D := by omega
                have hq0 : (0 : Int) < D := by omega
                obtain ⟨A2, hA2⟩ : ∃ A2, (if j + 1 = D then some ⟨Bm, 0, none⟩ else (some (⟨Bm, 0, none⟩ : Addr)).map (fun x => x.add D)) = A2 := ⟨_, rfl⟩
                obtain ⟨c2, hc2⟩ : ∃ c2, j + 1 - D = c2 := ⟨_, rfl⟩
                have sl : ∀ w, (Instr.slice 25 (.slice (some ⟨Bm, 0, none⟩) (j + 1) (j + 1)) (some (.int .i64 D)) none none).run Yba.prog w = .ok (.slice A2 n2 c2) w := by
                  intro w
                  rw [icut_l _ (j + 1) (j + 1) D _ rfl (by omega), hA2, hc2, show c2 = n2 from by omega]
                have HSE : Hid (Seg w4 A2 (ints E)) := by
                  by_cases h0 : n2 = 0
                  · exact .inl (List.eq_nil_of_length_eq_zero (by rw [ints_len]; omega))
                  · rw [if_neg (by omega)] at hA2
                    rw [← hA2]
                    refine .inr ⟨Bm, D, by simp [add_flat], HR5.out.lt, fun j u hu => ?_⟩
                    rw [HR5.out.cell]
                    rw [← HE.out, ← ints_drop, List.getElem?_drop] at hu
                    rw [List.getElem?_append_left (by rcases Nat.lt_or_ge (D + j) (ints (ins zs v0 p)).length with h | h; exact h; rw [List.getElem?_eq_none h] at hu; cases hu)]
                    exact hu
                clear hA2 hc2 hn2 hD
                rw [HMl.out]
                go_wp2
                go_loop [26, 126] (fun b i => ∃ jj : Nat, jj ≤ n2 ∧ b = .bool ((E.take jj).any (· == v0)) ∧ i = .int .i64 jj) (fun _ i => n2 - (intOf i).toNat)
                case atStart => exact ⟨0, Nat.zero_le _, rfl, rfl⟩
                case round =>
                  obtain ⟨jj, hj, rfl, rfl⟩ := hrel
                  by_cases hlt : jj < n2
                  · obtain ⟨b1, o1, rfl, hc⟩ := seg_cell HSE.out jj (by omega)
                    have hts : (E.take (jj + 1)).any (· == v0) = ((E.take jj).any (· == v0) || (E[jj]'(by omega) == v0)) := by rw [take_step E jj (by omega), List.any_append]; simp
                    obtain ⟨y, hy⟩ : ∃ y, E[jj]'(by omega) = y := ⟨_, rfl⟩
                    rw [hy] at hc hts
                    have HTS : Hid ((E.take (jj + 1)).any (· == v0) = ((E.take jj).any (· == v0) || (y == v0))) := hts
                    clear hts hy
                    have q1 : (jj : Int) < n2 := by omega
                    generalize (E.take jj).any (· == v0) = x at HTS
                    cases hyv : (y == v0)
                    all_goals
                      go_wp2
                      go_round
                      case rel => exact ⟨jj + 1, by omega, congrArg Value.bool (by rw [HTS.out, hyv]; simp), by go_num⟩
                      case measure => simp [intOf]; omega
                  · obtain rfl : jj = n2 := by omega
                    have hall : (E.take jj).any (· == v0) = t := by rw [List.take_of_length_le (by omega)]; exact HT.out
                    rw [hall]
                    have htt : (t == t) = true := by simp
                    clear hall
                    go_wp2_with fail
                    refine (equal_int (some ⟨g, 0, none⟩) A2 jj cap c2 E _ hEl (by omega) HSG.out HSE.out).mono ?_
                    rintro e w5 ⟨rfl, hx5⟩
                    have hb5 : Below B w w5 := hx5.below hb4 (by have := HI4.out; omega) (by simp)
                    go_wp2
                    go_ret
                    exact ⟨rfl, hb5⟩
              · have hD : j + 1 - kp = 0 := by omega
                rw [hD] at hEl HE ⊢
                rw [Nat.sub_zero] at hEl ⊢
                have hq : ¬ (0 : Int) < (j : Int) + 1 - kp := by omega
                have HSE : Hid (Seg w4 (some ⟨Bm, 0, none⟩) (ints E)) := by
                  refine Seg.ofRow HR5.out 0 _ (fun j u hu => ?_)
                  rw [Nat.zero_add]
                  rw [← HE.out, List.drop_zero] at hu
                  rw [List.getElem?_append_left (by rcases Nat.lt_or_ge j (ints (ins zs v0 p)).length with h | h; exact h; rw [List.getElem?_eq_none h] at hu; cases hu)]
                  exact hu
                rw [HMl.out]
                go_wp2
                go_loop [26, 126] (fun b i => ∃ jj : Nat, jj ≤ (j + 1) ∧ b = .bool ((E.take jj).any (· == v0)) ∧ i = .int .i64 jj) (fun _ i => (j + 1) - (intOf i).toNat)
                case atStart => exact ⟨0, Nat.zero_le _, rfl, rfl⟩
                case round =>
                  obtain ⟨jj, hj, rfl, rfl⟩ := hrel
                  by_cases hlt : jj < (j + 1)
                  · obtain ⟨b1, o1, e1, hc⟩ := seg_cell HSE.out jj (by omega)
                    simp only [Option.some.injEq, Addr.mk.injEq, and_true] at e1
                    obtain ⟨rfl, rfl⟩ := e1
                    rw [Nat.zero_add] at hc
                    have hts : (E.take (jj + 1)).any (· == v0) = ((E.take jj).any (· == v0) || (E[jj]'(by omega) == v0)) := by rw [take_step E jj (by omega), List.any_append]; simp
                    obtain ⟨y, hy⟩ : ∃ y, E[jj]'(by omega) = y := ⟨_, rfl⟩
                    rw [hy] at hc hts
                    have HTS : Hid ((E.take (jj + 1)).any (· == v0) = ((E.take jj).any (· == v0) || (y == v0))) := hts
                    clear hts hy
                    have q1 : (jj : Int) < (j : Int) + 1 := by omega
                    generalize (E.take jj).any (· == v0) = x at HTS
                    cases hyv : (y == v0)
                    all_goals
                      go_wp2
                      go_round
                      case rel => exact ⟨jj + 1, by omega, congrArg Value.bool (by rw [HTS.out, hyv]; simp), by go_num⟩
                      case measure => simp [intOf]; omega
                  · have hje : jj = j + 1 := by omega
                    rw [hje]
                    have hall : (E.take (j + 1)).any (· == v0) = t := by rw [List.take_of_length_le (by omega)]; exact HT.out
                    rw [hall]
                    have htt : (t == t) = true := by simp
                    clear hall
                    go_wp2_with fail
                    refine (equal_int (some ⟨g, 0, none⟩) (some ⟨Bm, 0, none⟩) (j + 1) cap (j + 1) E _ hEl (by omega) HSG.out HSE.out).mono ?_
                    rintro e w5 ⟨rfl, hx5⟩
                    have hb5 : Below B w w5 := hx5.below hb4 (by have := HI4.out; omega) (by simp)
                    go_wp2
                    go_ret
                    exact ⟨rfl, hb5⟩
            · obtain ⟨MM, hMM⟩ : ∃ MM, merge zs v0 j = MM := ⟨_, rfl⟩
              have HMM : Hid (∀ p, Place zs v0 p → hit zs v0 p = false → MM = ins zs v0 p) := fun p h1 h2 => by have := merge_all h1 h2; rw [hzl, hpl, if_pos rfl, hMM] at this; exact this
              rw [hMM] at hI ⊢
              have HI : Hid (Inv w B g0 Bm zs rest0 (j + 1) MM wr) := hI
              clear hMM hI
              go_wp2_with fail
              refine (kept_int B 0 j kp v0 zs _ hzl (by omega) (by omega) (Seg.ofRow HI.out.s 0 _ (fun j u hu => by rw [Nat.zero_add]; exact hu)) HA.out).mono ?_
              rintro e w4 ⟨p, hP, hx4, hcase⟩
              have hmp := met_place hP HA.out
              rw [hzl, HPR.out] at hmp
              rcases hcase with ⟨h1, _⟩ | ⟨hh, g, cap, R, rfl, hg, hr4⟩
              · rw [h1] at hmp; cases hmp
              have eM := HMM.out p hP hh
              have HM4 : Hid (∃ R, Row w4 Bm 3 (ints (ins zs v0 p) ++ R) ∧ (ints (ins zs v0 p) ++ R).length = j + 1) := by
                obtain ⟨R, h1, h2⟩ := HI.out.m
                rw [eM] at h1 h2
                exact ⟨R, h1.ext hx4 (by simp), h2⟩
              have hb4 : Below B w w4 := hx4.below HI.out.b (by have := HI.out.s.lt; omega) (by simp)
              have HI4 : Hid (B < w4.heap.size) := Nat.lt_of_lt_of_le HI.out.s.lt hx4.size
              obtain ⟨t, ht⟩ : ∃ t, decide (j + 1 - kp ≤ p) = t := ⟨_, rfl⟩
              have hkp := kept_place hP HA.out hh (j + 1 - kp)
              rw [ht] at hkp ⊢
              obtain ⟨E, hE⟩ : ∃ E, (ins zs v0 p).drop (j + 1 - kp) = E := ⟨_, rfl⟩
              have hil := ins_len zs v0 p (by rw [hzl]; have := hP.1; omega)
              have hEl : E.length = j + 1 - (j + 1 - kp) := by rw [← hE, List.length_drop, hil, hzl]
              have HG4 : Hid (Row w4 g 3 (ints E ++ R)) := by rw [← hE]; exact hr4
              have HT : Hid (E.any (· == v0) = t) := by rw [← hE]; exact hkp
              have HE : Hid ((ins zs v0 p).drop (j + 1 - kp) = E) := hE
              have HMl : Hid (MM.length = j + 1) := by rw [eM, hil, hzl]; rfl
              clear hr4 hkp hE ht hmp eM HI hil HMM hg
              have HSG : Hid (Seg w4 (some ⟨g, 0, none⟩) (ints E)) := Seg.ofRow HG4.out 0 _ (fun j u hu => by rw [Nat.zero_add, List.getElem?_append_left (by rcases Nat.lt_or_ge j (ints E).length with h | h; exact h; rw [List.getElem?_eq_none h] at hu; cases hu)]; exact hu)
              obtain ⟨R5, hr5, hl5⟩ := HM4.out
              have HR5 : Hid (Row w4 Bm 3 (ints (ins zs v0 p) ++ R5)) := hr5
              have HL5 : Hid ((ints (ins zs v0 p) ++ R5).length = j + 1) := hl5
              clear hr5 hl5 HM4
              by_cases hd : kp < j + 1
              · obtain ⟨D, hD⟩ : ∃ D, j + 1 - kp = D := ⟨_, rfl⟩
                rw [hD] at hEl HE ⊢
                obtain ⟨n2, hn2⟩ : ∃ n2, j + 1 - D = n2 := ⟨_, rfl⟩
                rw [hn2] at hEl ⊢
                have hn2b : n2 ≤ 2000 := by omega
                have hq : (j : Int) + 1 - kp = D := by omega
                have hq0 : (0 : Int) < D := by omega
                obtain ⟨A2, hA2⟩ : ∃ A2, (if j + 1 = D then some ⟨Bm, 0, none⟩ else (some (⟨Bm, 0, none⟩ : Addr)).map (fun x => x.add D)) = A2 := ⟨_, rfl⟩
                obtain ⟨c2, hc2⟩ : ∃ c2, j + 1 - D = c2 := ⟨_, rfl⟩
                have sl : ∀ w, (Instr.slice 25 (.slice (some ⟨Bm, 0, none⟩) (j + 1) (j + 1)) (some (.int .i64 D)) none none).run Yba.prog w = .ok (.slice A2 n2 c2) w := by
                  intro w
                  rw [icut_l _ (j + 1) (j + 1) D _ rfl (by omega), hA2, hc2, show c2 = n2 from by omega]
                have HSE : Hid (Seg w4 A2 (ints E)) := by
                  by_cases h0 : n2 = 0
                  · exact .inl (List.eq_nil_of_length_eq_zero (by rw [ints_len]; omega))
                  · rw [if_neg (by omega)] at hA2
                    rw [← hA2]
                    refine .inr ⟨Bm, D, by simp [add_flat], HR5.out.lt, fun j u hu => ?_⟩
                    rw [HR5.out.cell]
                    rw [← HE.out, ← ints_drop, List.getElem?_drop] at hu
                    rw [List.getElem?_append_left (by rcases Nat.lt_or_ge (D + j) (ints (ins zs v0 p)).length with h | h; exact h; rw [List.getElem?_eq_none h] at hu; cases hu)]
                    exact hu
                clear hA2 hc2 hn2 hD
                rw [HMl.out]
                go_wp2
                go_loop [26, 126] (fun b i => ∃ jj : Nat, jj ≤ n2 ∧ b = .bool ((E.take jj).any (· == v0)) ∧ i = .int .i64 jj) (fun _ i => n2 - (intOf i).toNat)
                case atStart => exact ⟨0, Nat.zero_le _, rfl, rfl⟩
                case round =>
                  obtain ⟨jj, hj, rfl, rfl⟩ := hrel
                  by_cases hlt : jj < n2
                  · obtain ⟨b1, o1, rfl, hc⟩ := seg_cell HSE.out jj (by omega)
                    have hts : (E.take (jj + 1)).any (· == v0) = ((E.take jj).any (· == v0) || (E[jj]'(by omega) == v0)) := by rw [take_step E jj (by omega), List.any_append]; simp
                    obtain ⟨y, hy⟩ : ∃ y, E[jj]'(by omega) = y := ⟨_, rfl⟩
                    rw [hy] at hc hts
                    have HTS : Hid ((E.take (jj + 1)).any (· == v0) = ((E.take jj).any (· == v0) || (y == v0))) := hts
                    clear hts hy
                    have q1 : (jj : Int) < n2 := by omega
                    generalize (E.take jj).any (· == v0) = x at HTS
                    cases hyv : (y == v0)
                    all_goals
                      go_wp2
                      go_round
                      case rel => exact ⟨jj + 1, by omega, congrArg Value.bool (by rw [HTS.out, hyv]; simp), by go_num⟩
                      case measure => simp [intOf]; omega
                  · obtain rfl : jj = n2 := by omega
                    have hall : (E.take jj).any (· == v0) = t := by rw [List.take_of_length_le (by omega)]; exact HT.out
                    rw [hall]
                    have htt : (t == t) = true := by simp
                    clear hall
                    go_wp2_with fail
                    refine (equal_int (some ⟨g, 0, none⟩) A2 jj cap c2 E _ hEl (by omega) HSG.out HSE.out).mono ?_
                    rintro e w5 ⟨rfl, hx5⟩
                    have hb5 : Below B w w5 := hx5.below hb4 (by have := HI4.out; omega) (by simp)
                    go_wp2
                    go_ret
                    exact ⟨rfl, hb5⟩
              · have hD : j + 1 - kp = 0 := by omega
                rw [hD] at hEl HE ⊢
                rw [Nat.sub_zero] at hEl ⊢
                have hq : ¬ (0 : Int) < (j : Int) + 1 - kp := by omega
                have HSE : Hid (Seg w4 (some ⟨Bm, 0, none⟩) (ints E)) := by
                  refine Seg.ofRow HR5.out 0 _ (fun j u hu => ?_)
                  rw [Nat.zero_add]
                  rw [← HE.out, List.drop_zero] at hu
                  rw [List.getElem?_append_left (by rcases Nat.lt_or_ge j (ints (ins zs v0 p)).length with h | h; exact h; rw [List.getElem?_eq_none h] at hu; cases hu)]
                  exact hu
                rw [HMl.out]
                go_wp2
                go_loop [26, 126] (fun b i => ∃ jj : Nat, jj ≤ (j + 1) ∧ b = .bool ((E.take jj).any (· == v0)) ∧ i = .int .i64 jj) (fun _ i => (j + 1) - (intOf i).toNat)
                case atStart => exact ⟨0, Nat.zero_le _, rfl, rfl⟩
                case round =>
                  obtain ⟨jj, hj, rfl, rfl⟩ := hrel
                  by_cases hlt : jj < (j + 1)
                  · obtain ⟨b1, o1, e1, hc⟩ := seg_cell HSE.out jj (by omega)
                    simp only [Option.some.injEq, Addr.mk.injEq, and_true] at e1
                    obtain ⟨rfl, rfl⟩ := e1
                    rw [Nat.zero_add] at hc
                    have hts : (E.take (jj + 1)).any (· == v0) = ((E.take jj).any (· == v0) || (E[jj]'(by omega) == v0)) := by rw [take_step E jj (by omega), List.any_append]; simp
                    obtain ⟨y, hy⟩ : ∃ y, E[jj]'(by omega) = y := ⟨_, rfl⟩
                    rw [hy] at hc hts
                    have HTS : Hid ((E.take (jj + 1)).any (· == v0) = ((E.take jj).any (· == v0) || (y == v0))) := hts
                    clear hts hy
                    have q1 : (jj : Int) < (j : Int) + 1 := by omega
                    generalize (E.take jj).any (· == v0) = x at HTS
                    cases hyv : (y == v0)
                    all_goals
                      go_wp2
                      go_round
                      case rel => exact ⟨jj + 1, by omega, congrArg Value.bool (by rw [HTS.out, hyv]; simp), by go_num⟩
                      case measure => simp [intOf]; omega
                  · have hje : jj = j + 1 := by omega
                    rw [hje]
                    have hall : (E.take (j + 1)).any (· == v0) = t := by rw [List.take_of_length_le (by omega)]; exact HT.out
                    rw [hall]
                    have htt : (t == t) = true := by simp
                    clear hall
                    go_wp2_with fail
                    refine (equal_int (some ⟨g, 0, none⟩) (some ⟨Bm, 0, none⟩) (j + 1) cap (j + 1) E _ hEl (by omega) HSG.out HSE.out).mono ?_
                    rintro e w5 ⟨rfl, hx5⟩
                    have hb5 : Below B w w5 := hx5.below hb4 (by have := HI4.out; omega) (by simp)
                    go_wp2
                    go_ret
                    exact ⟨rfl, hb5⟩
          · have HPR : Hid (met zs v0 j = true) := hpr
            cases hpl : above zs v0 j
            all_goals
              go_wp2_with fail
              refine (kept_int B 0 j kp v0 zs _ hzl (by omega) (by omega) (Seg.ofRow hI.out.s 0 _ (fun i u hu => by rw [Nat.zero_add]; exact hu)) HA.out).mono ?_
              rintro e w4 ⟨p, hP, hx4, hcase⟩
              have hmp := met_place hP HA.out
              rw [hzl, HPR.out] at hmp
              rcases hcase with ⟨h1, rfl⟩ | ⟨hh, _⟩
              · have HS4 : Hid (Row w4 B 3 (ints zs)) := hI.out.s.ext hx4 (by simp)
                have HO4 : Hid (Row w4 g0 3 (ints zs ++ rest0)) := hI.out.o.ext hx4 (by simp)
                have hb4 : Below B w w4 := hx4.below hI.out.b (by have := hI.out.s.lt; omega) (by simp)
                clear hmp h1
                go_wp2_with fail
                refine (equal_int (some ⟨B, 0, none⟩) (some ⟨g0, 0, none⟩) j j cap0 zs _ hzl (by omega) (Seg.ofRow HS4.out 0 _ (fun i u hu => by rw [Nat.zero_add]; exact hu)) (Seg.ofRow HO4.out 0 _ (fun i u hu => by rw [Nat.zero_add, List.getElem?_append_left (by rcases Nat.lt_or_ge i (ints zs).length with h | h; exact h; rw [List.getElem?_eq_none h] at hu; cases hu)]; exact hu))).mono ?_
                rintro e w5 ⟨rfl, hx5⟩
                have hb5 : Below B w w5 := hx5.below hb4 (by have := HS4.out.lt; omega) (by simp)
                go_wp2
                go_ret
                exact ⟨rfl, hb5⟩
              · rw [hh] at hmp; cases hmp

end Go.Proofs.Ybulkcure
