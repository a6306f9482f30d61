/- LawS4814BByCompare, walked. -/
import Derived.Test.YbulkcurePlainKv
namespace Go.Proofs.Ybulkcure
open Go.RowKit Mem

attribute [local go_sem ↓] Go.wp_at_zero Go.wp_at_succ

/-- 'make([]kv, 0, n)' -/
theorem make_ks (n : Nat) (hn : n ≤ 1000000) : ∃ Z : List Value, Z.length = n * 2 ∧ ∀ w, (Instr.makeSlice 32 (.int .i64 0) (.int .i64 (n : Int))).run Yba.prog w = .ok (.slice (some ⟨w.heap.size, 0, none⟩) 0 n) (w.alloc (.cells Z.toArray 34)) := by
  obtain ⟨i, hi, hz0, hz1, hz2⟩ := info_parts Yba.info34
  refine ⟨(madeCells (Value.agg #[.int .i64 0, .int .i64 0]).cells (n * 2)).toList, by simp [size_madeCells], fun w => ?_⟩
  have := run_make (P := Yba.prog) w 32 34 i _ Yba.underlying32 hi hz0 .i64 .i64 0 n (by omega) (by omega) (by rw [hz2]; omega) (by omega)
  simp only [Int.toNat_natCast, hz1] at this
  have e0 : (0 : Int).toNat = 0 := rfl
  rw [e0] at this
  rw [this, Array.toArray_toList]

/-- what stands while the law goes on: s, its clone, v, the count of calls, the flag, all that was there before -/
structure InvK (w : World) (B g0 Bv Bc Bb : Nat) (zs : List (Int × Int)) (rest0 : List Value) (v0 : Int) (c : Nat) (wr : World) : Prop where
  s : Row wr B 34 (kvs zs)
  o : Row wr g0 34 (kvs zs ++ rest0)
  v : Row wr Bv 34 [.int .i64 v0, .int .i64 (-1)]
  c : Row wr Bc 3 [.int .i64 c]
  f : Row wr Bb 4 [.bool false]
  b : Below B w wr
theorem InvK.alloc {w : World} {B g0 Bv Bc Bb : Nat} {zs : List (Int × Int)} {rest0 : List Value} {v0 : Int} {c : Nat} {wr : World} (h : InvK w B g0 Bv Bc Bb zs rest0 v0 c wr) (ob : Obj) : InvK w B g0 Bv Bc Bb zs rest0 v0 c (wr.alloc ob) :=
  ⟨h.s.alloc ob, h.o.alloc ob, h.v.alloc ob, h.c.alloc ob, h.f.alloc ob, h.b.alloc (by have := h.s.lt; omega) ob⟩
theorem InvK.oseg {w : World} {B g0 Bv Bc Bb : Nat} {zs : List (Int × Int)} {rest0 : List Value} {v0 : Int} {c : Nat} {wr : World} (h : InvK w B g0 Bv Bc Bb zs rest0 v0 c wr) : Seg wr (some ⟨g0, 0, none⟩) (kvs zs) :=
  Seg.ofRow h.o 0 _ (fun j u hu => by rw [Nat.zero_add, List.getElem?_append_left (by rcases Nat.lt_or_ge j (kvs zs).length with h | h; exact h; rw [List.getElem?_eq_none h] at hu; cases hu)]; exact hu)
theorem InvK.sseg {w : World} {B g0 Bv Bc Bb : Nat} {zs : List (Int × Int)} {rest0 : List Value} {v0 : Int} {c : Nat} {wr : World} (h : InvK w B g0 Bv Bc Bb zs rest0 v0 c wr) : Seg wr (some ⟨B, 0, none⟩) (kvs zs) :=
  Seg.ofRow h.s 0 _ (fun j u hu => by rw [Nat.zero_add]; exact hu)
theorem kept_items' {zs : List (Int × Int)} {v : Int} {p : Nat} (hP : Place (keys zs) v p) (hz : Asc (keys zs)) (hm : hit (keys zs) v p = false) (ht : ∀ j (h : j < zs.length), 0 ≤ zs[j].2) (D : Nat) (E : List (Int × Int)) (hE : (insk zs v p).drop D = E) :
    (E.any (fun e => e.2 == -1) = decide (D ≤ p)) ∧ (∀ j (h : j < E.length), E[j].2 = -1 → E[j].1 = v) ∧ (∀ j (h : j + 1 < E.length), (E[j]'(by omega)).1 < E[j + 1].1) := by
  subst hE
  exact kept_items hP hz hm ht D
theorem gseg {w : World} {g : Nat} {zs : List (Int × Int)} {R : List Value} (h : Row w g 34 (kvs zs ++ R)) : Seg w (some ⟨g, 0, none⟩) (kvs zs) :=
  Seg.ofRow h 0 _ (fun j u hu => by rw [Nat.zero_add, List.getElem?_append_left (by rcases Nat.lt_or_ge j (kvs zs).length with h | h; exact h; rw [List.getElem?_eq_none h] at hu; cases hu)]; exact hu)
theorem seg_pair {w : World} {g : Nat} {zs : List (Int × Int)} (h : Seg w (some ⟨g, 0, none⟩) (kvs zs)) (j : Nat) (hj : j < zs.length) : w.cell? ⟨g, j * 2, none⟩ = some (.int .i64 zs[j].1) ∧ w.cell? ⟨g, j * 2 + 1, none⟩ = some (.int .i64 zs[j].2) := by
  obtain ⟨b, o, e, _, h1, h2⟩ := kseg_cell h j hj
  simp only [Option.some.injEq, Addr.mk.injEq, and_true] at e
  obtain ⟨rfl, rfl⟩ := e
  rw [Nat.zero_add] at h1 h2
  exact ⟨h1, h2⟩

set_option maxRecDepth 100000 in
set_option maxHeartbeats 4000000 in
theorem compare_walk (x0 v0 : Int) (kp : Nat) (a1 : Option Addr) (N cap1 : Nat) (z : Nat → Int) (w : World) (hx : -128 ≤ x0 ∧ x0 ≤ 127) (hv : -32768 ≤ v0 ∧ v0 ≤ 32767) (hk : kp ≤ 255) (hN : N ≤ 1024)
    (hz : ∀ k, k < N → 0 ≤ z k ∧ z k ≤ 255) (hcells : ∀ k, k < N → ∃ b off, a1 = some ⟨b, off, none⟩ ∧ b < w.heap.size ∧ w.cell? ⟨b, off + k, none⟩ = some (.int .u8 (z k))) :
    Calls Yba.prog 4 #[.int .i8 x0, .slice a1 N cap1, .int .i16 v0, .int .u8 (kp : Int)] w fun e w' => e = .returned (.bool true) ∧ Below w.heap.size w w' := by
  obtain ⟨ti, hti, hz0, hz1, hz2⟩ := info_parts Yba.info34
  obtain ⟨Z, HZ0, hmk⟩ := make_ks N (by omega)
  have HZ : Hid (Z.length = N * 2) := HZ0
  clear HZ0
  obtain ⟨B, hB⟩ : ∃ B : Nat, w.heap.size = B := ⟨_, rfl⟩
  rw [hB]
  have HC : Hid (∀ k, k < N → ∃ b off, a1 = some ⟨b, off, none⟩ ∧ b < w.heap.size ∧ w.cell? ⟨b, off + k, none⟩ = some (.int .u8 (z k))) := hcells
  have HZZ : Hid (∀ k, k < N → 0 ≤ z k ∧ z k ≤ 255) := hz
  clear hcells hz
  have q0 : ¬ (1024 : Int) < (N : Int) := by omega
  go_enter Yba.func4, Yba.ntmps4
  go_wp2
  go_loopw [9, 10, 37] (fun s x i wr => ∃ (k : Nat) (L : List Value), k ≤ N ∧ s = .slice (some ⟨B, 0, none⟩) k N ∧ x = .int .i64 (nth x0 z k) ∧ i = .int .i64 k ∧ Hid (LaidK x0 z k N L) ∧ Hid (Row wr B 34 L) ∧ Below B w wr ∧ B < wr.heap.size) (fun _ _ i _ => N - (intOf i).toNat)
  case atStart =>
    exact ⟨0, Z, Nat.zero_le _, rfl, rfl, rfl, ⟨HZ.out, fun i hi => absurd hi (by omega)⟩, row_new hB _ _, (Below.refl _ _).alloc (by omega) _, by rw [size_alloc]; omega⟩
  case round =>
    clear HZ hmk
    obtain ⟨k, L, hk1, rfl, rfl, rfl, hL, hR, hb, hsz⟩ := hrel
    by_cases hlt : k < N
    · obtain ⟨b, off, rfl, hbl, hc⟩ := HC.out k hlt
      have hc' : wr.cell? ⟨b, off + k, none⟩ = some (.int .u8 (z k)) := (hb.cell (by simpa [← hB] using hbl)).trans hc
      have hzk := HZZ.out k hlt
      have hnb := nth_bd x0 z N HZZ.out k hk1
      have q1 : (k : Int) < N := by omega
      go_wp2_with (at_builtin; refine Halt.out ?_)
      unfold Halt
      refine wpList_append_room rfl (.tmp 42) (.tmp 46) 32 rfl 34 ti Yba.underlying32 hti B 0 k N _ 1 1 rfl rfl [.int .i64 (nth x0 z k), .int .i64 (k : Int)] (by simp [hz1]) (Seg.ofRow (row_new rfl 34 [.int .i64 (nth x0 z k), .int .i64 (k : Int)]) 0 _ (by simp)) (by simp [Value.oneCell']) (by omega) 34 L (hR.out.alloc _) (by rw [hL.out.1, hz1]; simp; omega) ?_
      intro w1 hx1 hs1 hr1
      rw [hz1, Nat.zero_add] at hr1
      have HR1 : Hid (Row w1 B 34 (splice L (k * 2) [.int .i64 (nth x0 z k), .int .i64 (k : Int)])) := hr1
      have hb1 : Below B w w1 := hx1.below (hb.alloc (by omega) _) (by rw [size_alloc]; omega) (by simp)
      have hsz1 : B < w1.heap.size := by rw [hs1, size_alloc]; omega
      clear hr1 hx1 hs1
      go_wp2
      go_roundw
      case rel => exact ⟨k + 1, _, by omega, rfl, rfl, by go_num, LaidK.step hL.out hlt, HR1, hb1, hsz1⟩
      case measure => simp [intOf]; omega
    · obtain rfl : k = N := by omega
      have eL := hL.out.all
      have hzl := items_len x0 z k
      have hza := nums_asc x0 z k (fun j hj => (HZZ.out j hj).1)
      rw [← items_keys] at hza
      have hzt := items_tag x0 z k
      generalize items x0 z k = zs at eL hzl hza hzt
      subst eL
      have HR : Hid (Row wr B 34 (kvs zs)) := hR.out
      have HA : Hid (Asc (keys zs)) := hza
      have HT : Hid (∀ j (h : j < zs.length), 0 ≤ zs[j].2) := hzt
      clear hL hR hza hzt HC HZZ
      go_wp2_with fail
      refine (clone_kv B 0 k k (kvs zs) _ (by rw [kvs_len, hzl]) (Seg.ofRow HR.out 0 _ (fun j u hu => by rw [Nat.zero_add]; exact hu)) (by omega)).mono ?_
      rintro e w1 ⟨g0, cap0, rfl, hg0, hx1, rest0, hr0⟩
      have HR1 : Hid (Row w1 B 34 (kvs zs)) := HR.out.ext hx1 (by simp)
      have HO : Hid (Row w1 g0 34 (kvs zs ++ rest0)) := hr0
      have hb1 : Below B w w1 := hx1.below hb (by omega) (by simp)
      have hsz1 : B < w1.heap.size := Nat.lt_of_lt_of_le hsz hx1.size
      have hg1 : B < g0 ∧ g0 < w1.heap.size := ⟨by omega, hr0.lt⟩
      clear HR hr0 hx1 hb hsz hg0
      obtain ⟨Bv, hBv⟩ : ∃ Bv, w1.heap.size = Bv := ⟨_, rfl⟩
      rw [hBv] at hg1 hsz1
      go_wp2
      obtain ⟨Bc, hBc⟩ : ∃ Bc, Bv + 1 = Bc := ⟨_, rfl⟩
      obtain ⟨Bb, hBb⟩ : ∃ Bb, Bc + 1 = Bb := ⟨_, rfl⟩
      rw [hBc, hBb]
      have HI0 : Hid (InvK w B g0 Bv Bc Bb zs rest0 v0 0 (((w1.alloc (.cells #[.int .i64 v0, .int .i64 (-1)] 34)).alloc (.cells #[.int .i64 0] 3)).alloc (.cells #[.bool false] 4))) :=
        ⟨((HR1.out.alloc _).alloc _).alloc _, ((HO.out.alloc _).alloc _).alloc _, ((row_new hBv 34 [.int .i64 v0, .int .i64 (-1)]).alloc _).alloc _, (row_new (by rw [size_alloc, hBv]; exact hBc) 3 [.int .i64 0]).alloc _, row_new (by rw [size_alloc, size_alloc, hBv]; omega) 4 [.bool false], ((hb1.alloc (by omega) _).alloc (by rw [size_alloc]; omega) _).alloc (by rw [size_alloc, size_alloc]; omega) _⟩
      have HBS : Hid (Bv + 1 = Bc ∧ Bc + 1 = Bb) := ⟨hBc, hBb⟩
      clear HR1 HO hb1 hBv hBc hBb
      go_loopw [18, 62] (fun pr i wr2 => ∃ j : Nat, j ≤ k ∧ pr = .bool (met (keys zs) v0 j) ∧ i = .int .i64 j ∧ Hid (InvK w B g0 Bv Bc Bb zs rest0 v0 0 wr2)) (fun _ i _ => k - (intOf i).toNat)
      case atStart => exact ⟨0, Nat.zero_le _, rfl, rfl, HI0⟩
      case round =>
        clear HI0 hsz1
        obtain ⟨j, hj, rfl, rfl, hI⟩ := hrel
        by_cases hlt : j < k
        · obtain ⟨hc1, hc2⟩ := seg_pair hI.out.oseg j (by omega)
          have hme := met_step (keys zs) v0 j (by rw [keys_len]; omega)
          rw [keys_get] at hme
          generalize zs[j] = y at hc1 hc2 hme
          obtain ⟨y1, y2⟩ := y
          simp only [] at hc1 hc2 hme
          have HME : Hid (met (keys zs) v0 (j + 1) = (met (keys zs) v0 j || (y1 == v0))) := hme
          clear hme
          have v1 : wr.cell? ⟨Bv, 0, none⟩ = some (.int .i64 v0) := hI.out.v.cell 0
          have q1 : (j : Int) < k := by omega
          have hvl := hI.out.v.lt
          have hgl := hI.out.o.lt
          cases hyv : (y1 == v0)
          all_goals
            go_wp2
            go_roundw
            case rel => exact ⟨j + 1, by omega, congrArg Value.bool (by rw [HME.out, hyv]; simp), by go_num, hI.out.alloc _⟩
            case measure => simp [intOf]; omega
        · obtain rfl : j = k := by omega
          clear hlt hj
          have v1 : wr.cell? ⟨Bv, 0, none⟩ = some (.int .i64 v0) := hI.out.v.cell 0
          have v2 : wr.cell? ⟨Bv, 1, none⟩ = some (.int .i64 (-1)) := hI.out.v.cell 1
          go_wp2_with fail
          refine (kept_kv B 0 j kp Bc Bb v0 zs _ hzl (by omega) (by omega) hI.out.sseg HA.out HT.out hI.out.c (by have := HBS.out; omega)).mono ?_
          rintro e w4 ⟨p, c, hP, hx4, hrc4, hcp, hcase⟩
          have hmp := met_place hP HA.out
          rw [keys_len, hzl] at hmp
          have HI4 : Hid (InvK w B g0 Bv Bc Bb zs rest0 v0 c w4) := by
            have := HBS.out
            exact ⟨hI.out.s.ext hx4 (by simp; omega), hI.out.o.ext hx4 (by simp; omega), hI.out.v.ext hx4 (by simp; omega), hrc4, hI.out.f.ext hx4 (by simp; omega), hx4.below hI.out.b (by have := hI.out.s.lt; omega) (by simp; omega)⟩
          have hsz4 := hx4.size
          have f4 : w4.cell? ⟨Bb, 0, none⟩ = some (.bool false) := HI4.out.f.cell 0
          have c4 : w4.cell? ⟨Bc, 0, none⟩ = some (.int .i64 c) := HI4.out.c.cell 0
          have v4 : w4.cell? ⟨Bv, 0, none⟩ = some (.int .i64 v0) := HI4.out.v.cell 0
          clear hrc4 hx4 v1 v2
          rcases hcase with ⟨h1, rfl⟩ | ⟨hh, g, cap, R, rfl, hg, hr4⟩
          · rw [h1] at hmp
            rw [hmp]
            clear hmp h1
            by_cases hj0 : 0 < j
            · have hc0 : ((c : Int) == 0) = false := by have := hcp hj0; simp; omega
              have q2 : (0 : Int) < j := by omega
              go_wp2_with fail
              refine (equal_kv (some ⟨B, 0, none⟩) (some ⟨g0, 0, none⟩) j j cap0 zs _ hzl (by omega) HI4.out.sseg HI4.out.oseg).mono ?_
              rintro e w5 ⟨rfl, hx5⟩
              have hb5 : Below B w w5 := hx5.below HI4.out.b (by have := HI4.out.s.lt; omega) (by simp)
              go_wp2
              go_ret
              exact ⟨rfl, hb5⟩
            · have q2 : ¬ (0 : Int) < j := by omega
              go_wp2_with fail
              refine (equal_kv (some ⟨B, 0, none⟩) (some ⟨g0, 0, none⟩) j j cap0 zs _ hzl (by omega) HI4.out.sseg HI4.out.oseg).mono ?_
              rintro e w5 ⟨rfl, hx5⟩
              have hb5 : Below B w w5 := hx5.below HI4.out.b (by have := HI4.out.s.lt; omega) (by simp)
              go_wp2
              go_ret
              exact ⟨rfl, hb5⟩
          · rw [hh] at hmp
            rw [hmp]
            obtain ⟨t, ht⟩ : ∃ t, decide (j + 1 - kp ≤ p) = t := ⟨_, rfl⟩
            obtain ⟨E, hE⟩ : ∃ E, (insk zs v0 p).drop (j + 1 - kp) = E := ⟨_, rfl⟩
            obtain ⟨k1, k2, k3⟩ := kept_items' hP HA.out hh HT.out (j + 1 - kp) E hE
            rw [ht] at k1 ⊢
            have hil := insk_len zs v0 p (by rw [← keys_len]; exact hP.1)
            obtain ⟨n2, hn2'⟩ : ∃ n2, j + 1 - (j + 1 - kp) = n2 := ⟨_, rfl⟩
            have hEl : ((insk zs v0 p).drop (j + 1 - kp)).length = n2 := by rw [List.length_drop, hil, hzl]; exact hn2'
            rw [hn2']
            have hn2 : Hid (j + 1 - (j + 1 - kp) = n2) := hn2'
            have hn2b : n2 ≤ 2000 := by omega
            clear hn2'
            rw [hE] at hEl hr4
            have HG4 : Hid (Row w4 g 34 (kvs E ++ R)) := hr4
            have HK : Hid ((∀ j (h : j < E.length), E[j].2 = -1 → E[j].1 = v0) ∧ ∀ j (h : j + 1 < E.length), (E[j]'(by omega)).1 < E[j + 1].1) := ⟨k2, k3⟩
            have HTT : Hid (E.any (fun e => e.2 == -1) = t) := k1
            have hgB : B ≤ g := by have := hI.out.s.lt; omega
            clear k1 k2 k3 hr4 hmp hil ht hh hE
            by_cases hj0 : 0 < j
            · have hc0 : ((c : Int) == 0) = false := by have := hcp hj0; simp; omega
              have q2 : (0 : Int) < j := by omega
              go_wp2
              go_loopw [23, 99] (fun b i wr5 => ∃ i' : Nat, i' ≤ n2 ∧ b = .bool ((E.take i').any (fun e => e.2 == -1)) ∧ i = .int .i64 i' ∧ Hid (Row wr5 g 34 (kvs E ++ R) ∧ Row wr5 Bv 34 [.int .i64 v0, .int .i64 (-1)] ∧ Below B w wr5)) (fun _ i _ => n2 - (intOf i).toNat)
              case atStart => exact ⟨0, Nat.zero_le _, rfl, rfl, HG4.out, HI4.out.v, HI4.out.b⟩
              case round =>
                obtain ⟨i, hi, rfl, rfl, hG⟩ := hrel
                by_cases hlt : i < n2
                · obtain ⟨y1c, y2c⟩ := seg_pair (gseg hG.out.1) i (by omega)
                  have hts : (E.take (i + 1)).any (fun e => e.2 == -1) = ((E.take i).any (fun e => e.2 == -1) || ((E[i]'(by omega)).2 == -1)) := by rw [List.take_succ_eq_append_getElem (by omega), List.any_append]; simp
                  have hk2 := HK.out.1 i (by omega)
                  have hk3 : ∀ (h : 0 < i), (E[i - 1]'(by omega)).1 < (E[i]'(by omega)).1 := by
                    intro h
                    obtain ⟨q, rfl⟩ : ∃ q, i = q + 1 := ⟨i - 1, by omega⟩
                    exact HK.out.2 q (by omega)
                  have hpc : ∀ (h : 0 < i), wr.cell? ⟨g, (i - 1) * 2, none⟩ = some (.int .i64 (E[i - 1]'(by omega)).1) := fun h => (seg_pair (gseg hG.out.1) (i - 1) (by omega)).1
                  generalize E[i] = y at y1c y2c hts hk2 hk3
                  obtain ⟨y1, y2⟩ := y
                  simp only [] at y1c y2c hts hk2 hk3
                  have HTS : Hid ((E.take (i + 1)).any (fun e => e.2 == -1) = ((E.take i).any (fun e => e.2 == -1) || (y2 == -1))) := hts
                  clear hts
                  have v5 : wr.cell? ⟨Bv, 0, none⟩ = some (.int .i64 v0) := hG.out.2.1.cell 0
                  have hgl := hG.out.1.lt
                  have hvl := hG.out.2.1.lt
                  have q1 : (i : Int) < n2 := by omega
                  generalize (E.take i).any (fun e => e.2 == -1) = x at HTS
                  by_cases hi0 : 0 < i
                  · have hpc' := hpc hi0
                    have hk3' := hk3 hi0
                    generalize (E[i - 1]'(by omega)).1 = x1 at hpc' hk3'
                    clear hpc hk3
                    have q3 : (0 : Int) < i := by omega
                    have q4 : decide ((0 : Int) < i) = true := by simpa using q3
                    have q5 : (i : Int) - 1 < n2 := by omega
                    cases hyt : (y2 == -1)
                    · clear hk2
                      go_wp2
                      go_quiet (fail)
                      go_wp2
                      go_roundw
                      case rel => exact ⟨i + 1, by omega, congrArg Value.bool (by rw [HTS.out, hyt]; simp), by go_num, ⟨(hG.out.1.alloc _).drewN _, (hG.out.2.1.alloc _).drewN _, below_drewN (hG.out.2.2.alloc (by have := hG.out.1.lt; omega) _) _⟩⟩
                      case measure => simp [intOf]; omega
                    · have hyv : (y1 != v0) = false := by have := hk2 (by simpa using hyt); simp [this]
                      clear hk2
                      go_wp2
                      go_quiet (fail)
                      go_wp2
                      go_roundw
                      case rel => exact ⟨i + 1, by omega, congrArg Value.bool (by rw [HTS.out, hyt]; simp), by go_num, ⟨(hG.out.1.alloc _).drewN _, (hG.out.2.1.alloc _).drewN _, below_drewN (hG.out.2.2.alloc (by have := hG.out.1.lt; omega) _) _⟩⟩
                      case measure => simp [intOf]; omega
                  · clear hpc hk3
                    have q4 : decide ((0 : Int) < i) = false := by simp; omega
                    cases hyt : (y2 == -1)
                    · clear hk2
                      go_wp2
                      go_quiet (fail)
                      go_wp2
                      go_roundw
                      case rel => exact ⟨i + 1, by omega, congrArg Value.bool (by rw [HTS.out, hyt]; simp), by go_num, ⟨(hG.out.1.alloc _).drewN _, (hG.out.2.1.alloc _).drewN _, below_drewN (hG.out.2.2.alloc (by have := hG.out.1.lt; omega) _) _⟩⟩
                      case measure => simp [intOf]; omega
                    · have hyv : (y1 != v0) = false := by have := hk2 (by simpa using hyt); simp [this]
                      clear hk2
                      go_wp2
                      go_quiet (fail)
                      go_wp2
                      go_roundw
                      case rel => exact ⟨i + 1, by omega, congrArg Value.bool (by rw [HTS.out, hyt]; simp), by go_num, ⟨(hG.out.1.alloc _).drewN _, (hG.out.2.1.alloc _).drewN _, below_drewN (hG.out.2.2.alloc (by have := hG.out.1.lt; omega) _) _⟩⟩
                      case measure => simp [intOf]; omega
                · obtain rfl : i = n2 := by omega
                  have hall : (E.take i).any (fun e => e.2 == -1) = t := by rw [List.take_of_length_le (by omega)]; exact HTT.out
                  rw [hall]
                  have htt : (t == t) = true := by simp
                  clear hall
                  by_cases hkj : kp < j + 1
                  · have q6 : (kp : Int) < (j : Int) + 1 := by omega
                    have hnn : ((i : Int) == (kp : Int)) = true := by have := hn2.out; simp; omega
                    go_wp2
                    go_ret
                    exact ⟨rfl, hG.out.2.2⟩
                  · have q6 : ¬ (kp : Int) < (j : Int) + 1 := by omega
                    have hnn : ((i : Int) == (j : Int) + 1) = true := by have := hn2.out; simp; omega
                    go_wp2
                    go_ret
                    exact ⟨rfl, hG.out.2.2⟩
            · have q2 : ¬ (0 : Int) < j := by omega
              go_wp2
              go_loopw [23, 99] (fun b i wr5 => ∃ i' : Nat, i' ≤ n2 ∧ b = .bool ((E.take i').any (fun e => e.2 == -1)) ∧ i = .int .i64 i' ∧ Hid (Row wr5 g 34 (kvs E ++ R) ∧ Row wr5 Bv 34 [.int .i64 v0, .int .i64 (-1)] ∧ Below B w wr5)) (fun _ i _ => n2 - (intOf i).toNat)
              case atStart => exact ⟨0, Nat.zero_le _, rfl, rfl, HG4.out, HI4.out.v, HI4.out.b⟩
              case round =>
                obtain ⟨i, hi, rfl, rfl, hG⟩ := hrel
                by_cases hlt : i < n2
                · obtain ⟨y1c, y2c⟩ := seg_pair (gseg hG.out.1) i (by omega)
                  have hts : (E.take (i + 1)).any (fun e => e.2 == -1) = ((E.take i).any (fun e => e.2 == -1) || ((E[i]'(by omega)).2 == -1)) := by rw [List.take_succ_eq_append_getElem (by omega), List.any_append]; simp
                  have hk2 := HK.out.1 i (by omega)
                  have hk3 : ∀ (h : 0 < i), (E[i - 1]'(by omega)).1 < (E[i]'(by omega)).1 := by
                    intro h
                    obtain ⟨q, rfl⟩ : ∃ q, i = q + 1 := ⟨i - 1, by omega⟩
                    exact HK.out.2 q (by omega)
                  have hpc : ∀ (h : 0 < i), wr.cell? ⟨g, (i - 1) * 2, none⟩ = some (.int .i64 (E[i - 1]'(by omega)).1) := fun h => (seg_pair (gseg hG.out.1) (i - 1) (by omega)).1
                  generalize E[i] = y at y1c y2c hts hk2 hk3
                  obtain ⟨y1, y2⟩ := y
                  simp only [] at y1c y2c hts hk2 hk3
                  have HTS : Hid ((E.take (i + 1)).any (fun e => e.2 == -1) = ((E.take i).any (fun e => e.2 == -1) || (y2 == -1))) := hts
                  clear hts
                  have v5 : wr.cell? ⟨Bv, 0, none⟩ = some (.int .i64 v0) := hG.out.2.1.cell 0
                  have hgl := hG.out.1.lt
                  have hvl := hG.out.2.1.lt
                  have q1 : (i : Int) < n2 := by omega
                  generalize (E.take i).any (fun e => e.2 == -1) = x at HTS
                  by_cases hi0 : 0 < i
                  · have hpc' := hpc hi0
                    have hk3' := hk3 hi0
                    generalize (E[i - 1]'(by omega)).1 = x1 at hpc' hk3'
                    clear hpc hk3
                    have q3 : (0 : Int) < i := by omega
                    have q4 : decide ((0 : Int) < i) = true := by simpa using q3
                    have q5 : (i : Int) - 1 < n2 := by omega
                    cases hyt : (y2 == -1)
                    · clear hk2
                      go_wp2
                      go_quiet (fail)
                      go_wp2
                      go_roundw
                      case rel => exact ⟨i + 1, by omega, congrArg Value.bool (by rw [HTS.out, hyt]; simp), by go_num, ⟨(hG.out.1.alloc _).drewN _, (hG.out.2.1.alloc _).drewN _, below_drewN (hG.out.2.2.alloc (by have := hG.out.1.lt; omega) _) _⟩⟩
                      case measure => simp [intOf]; omega
                    · have hyv : (y1 != v0) = false := by have := hk2 (by simpa using hyt); simp [this]
                      clear hk2
                      go_wp2
                      go_quiet (fail)
                      go_wp2
                      go_roundw
                      case rel => exact ⟨i + 1, by omega, congrArg Value.bool (by rw [HTS.out, hyt]; simp), by go_num, ⟨(hG.out.1.alloc _).drewN _, (hG.out.2.1.alloc _).drewN _, below_drewN (hG.out.2.2.alloc (by have := hG.out.1.lt; omega) _) _⟩⟩
                      case measure => simp [intOf]; omega
                  · clear hpc hk3
                    have q4 : decide ((0 : Int) < i) = false := by simp; omega
                    cases hyt : (y2 == -1)
                    · clear hk2
                      go_wp2
                      go_quiet (fail)
                      go_wp2
                      go_roundw
                      case rel => exact ⟨i + 1, by omega, congrArg Value.bool (by rw [HTS.out, hyt]; simp), by go_num, ⟨(hG.out.1.alloc _).drewN _, (hG.out.2.1.alloc _).drewN _, below_drewN (hG.out.2.2.alloc (by have := hG.out.1.lt; omega) _) _⟩⟩
                      case measure => simp [intOf]; omega
                    · have hyv : (y1 != v0) = false := by have := hk2 (by simpa using hyt); simp [this]
                      clear hk2
                      go_wp2
                      go_quiet (fail)
                      go_wp2
                      go_roundw
                      case rel => exact ⟨i + 1, by omega, congrArg Value.bool (by rw [HTS.out, hyt]; simp), by go_num, ⟨(hG.out.1.alloc _).drewN _, (hG.out.2.1.alloc _).drewN _, below_drewN (hG.out.2.2.alloc (by have := hG.out.1.lt; omega) _) _⟩⟩
                      case measure => simp [intOf]; omega
                · obtain rfl : i = n2 := by omega
                  have hall : (E.take i).any (fun e => e.2 == -1) = t := by rw [List.take_of_length_le (by omega)]; exact HTT.out
                  rw [hall]
                  have htt : (t == t) = true := by simp
                  clear hall
                  by_cases hkj : kp < j + 1
                  · have q6 : (kp : Int) < (j : Int) + 1 := by omega
                    have hnn : ((i : Int) == (kp : Int)) = true := by have := hn2.out; simp; omega
                    go_wp2
                    go_ret
                    exact ⟨rfl, hG.out.2.2⟩
                  · have q6 : ¬ (kp : Int) < (j : Int) + 1 := by omega
                    have hnn : ((i : Int) == (j : Int) + 1) = true := by have := hn2.out; simp; omega
                    go_wp2
                    go_ret
                    exact ⟨rfl, hG.out.2.2⟩

end Go.Proofs.Ybulkcure
