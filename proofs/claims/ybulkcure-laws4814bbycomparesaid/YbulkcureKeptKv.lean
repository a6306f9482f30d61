/- insertKept at zzs4814bkv: its contract. -/
import Derived.Test.YbulkcureKvs2
namespace Go.Proofs.Ybulkcure
open Go.RowKit Mem

/-- zs with v (tag -1) at p -/
def insk (zs : List (Int × Int)) (v : Int) (p : Nat) : List (Int × Int) := zs.take p ++ ((v, -1) :: zs.drop p)
theorem insk_len (zs : List (Int × Int)) (v : Int) (p : Nat) (h : p ≤ zs.length) : (insk zs v p).length = zs.length + 1 := by simp [insk]; omega
theorem kvs_insk (zs : List (Int × Int)) (v : Int) (p : Nat) : (kvs zs).take (p * 2) ++ ([Value.int .i64 v, Value.int .i64 (-1)] ++ (kvs zs).drop (p * 2)) = kvs (insk zs v p) := by
  rw [kvs_take, kvs_drop, insk, kvs_append, kvs_cons]
  simp

set_option maxHeartbeats 1000000 in
theorem kept_kv (b o n keep Bc Bb : Nat) (v : Int) (zs : List (Int × Int)) (w : World) (hl : zs.length = n) (hn : n ≤ 10000) (hk : keep ≤ 10000) (hs : Seg w (some ⟨b, o, none⟩) (kvs zs)) (hz : Asc (keys zs)) (ht : ∀ j (h : j < zs.length), 0 ≤ zs[j].2)
    (hrc : Row w Bc 3 [.int .i64 0]) (hbc : b ≠ Bc) :
    Calls Yba.prog 13 #[.slice (some ⟨b, o, none⟩) n n, .agg #[.int .i64 v, .int .i64 (-1)], .func (.func 12) #[] #[.pointer (some ⟨Bc, 0, none⟩), .pointer (some ⟨Bb, 0, none⟩)], .int .i64 keep] w fun e w' => ∃ p c : Nat, Place (keys zs) v p ∧ Ext [Bc] w w' ∧ Row w' Bc 3 [.int .i64 c] ∧ (0 < n → 0 < c) ∧
      ((hit (keys zs) v p = true ∧ e = .returned (.tuple #[.slice (some ⟨b, o, none⟩) n n, .bool false])) ∨
       (hit (keys zs) v p = false ∧ ∃ g cap R, e = .returned (.tuple #[.slice (some ⟨g, 0, none⟩) (n + 1 - (n + 1 - keep)) cap, .bool (decide (n + 1 - keep ≤ p))]) ∧ w.heap.size ≤ g ∧ Row w' g 34 (kvs ((insk zs v p).drop (n + 1 - keep)) ++ R))) := by
  have HS : Hid (Seg w (some ⟨b, o, none⟩) (kvs zs)) := hs
  have HZ : Hid (Asc (keys zs)) := hz
  have HT : Hid (∀ j (h : j < zs.length), 0 ≤ zs[j].2) := ht
  have HRC : Hid (Row w Bc 3 [.int .i64 0]) := hrc
  have hclt := hrc.lt
  clear hs hz ht hrc
  obtain ⟨B1, hB1⟩ : ∃ B1, w.heap.size = B1 := ⟨_, rfl⟩
  have HB1 : Hid (Row (w.alloc (.cells #[.int .i64 v, .int .i64 (-1)] 34)) B1 34 [.int .i64 v, .int .i64 (-1)]) := row_new hB1 34 [.int .i64 v, .int .i64 (-1)]
  have hB1c : B1 ≠ Bc := by omega
  go_enter Yba.func13, Yba.ntmps13
  go_wp2_with fail
  refine (search_kv b o n n Bc Bb v zs _ hl (by omega) (HS.out.keep ((Ext.refl [] w).alloc _)) HZ.out HT.out (HRC.out.alloc _) hbc).mono ?_
  rintro e w1 ⟨p, c, rfl, hP, hx1, hc1, hcp⟩
  have HP : Hid (Place (keys zs) v p) := hP
  have hpn : p ≤ n := by rw [← hl, ← keys_len]; exact hP.1
  have HC1 : Hid (Row w1 Bc 3 [.int .i64 c]) := hc1
  have hV := HB1.out.ext hx1 (by simpa using hB1c)
  have v0 : w1.cell? ⟨B1, 0, none⟩ = some (.int .i64 v) := hV.cell 0
  have v1 : w1.cell? ⟨B1, 1, none⟩ = some (.int .i64 (-1)) := hV.cell 1
  have hxa : Ext [Bc] w w1 := ((Ext.refl [Bc] w).alloc _).trans hx1
  have hS1 : Seg w1 (some ⟨b, o, none⟩) (kvs zs) := by
    rcases HS.out with h | ⟨b', o', h4, h5, h6⟩
    · exact .inl h
    · simp only [Option.some.injEq, Addr.mk.injEq, and_true] at h4
      obtain ⟨rfl, rfl⟩ := h4
      exact .inr ⟨b, o, rfl, Nat.lt_of_lt_of_le h5 hxa.size, fun k u hu => (hxa.cell h5 (by simpa using hbc)).trans (h6 k u hu)⟩
  have HS1 : Hid (Seg w1 (some ⟨b, o, none⟩) (kvs zs)) := hS1
  clear hP hc1 hV hx1 hS1
  by_cases hh : hit (keys zs) v p = true
  · rw [hh]
    go_wp2
    go_ret2
    exact ⟨p, c, HP.out, hxa, HC1.out, hcp, .inl ⟨hh, rfl⟩⟩
  · have hh' : hit (keys zs) v p = false := by simpa using hh
    rw [hh']
    have HH : Hid (hit (keys zs) v p = false) := hh'
    clear hh hh'
    go_wp2_with fail
    refine (insert_kv b o n p w1.heap.size (kvs zs) [.int .i64 v, .int .i64 (-1)] _ (by rw [kvs_len, hl]) (HS1.out.keep ((Ext.refl [] w1).alloc _)) rfl (Seg.ofRow (row_new rfl 34 [.int .i64 v, .int .i64 (-1)]) 0 _ (by simp)) (kvs_one zs) (by simp [Value.oneCell']) (by omega) hpn).mono ?_
    rintro e w2 ⟨g, cap, rest, rfl, hg, hc, hx2, hr2, hl2⟩
    rw [kvs_insk] at hr2 hl2
    have hx12 : Ext [Bc] w w2 := (hxa.alloc _).next hx2 (by simp)
    have hgw : w.heap.size ≤ g := by rw [size_alloc] at hg; have := hxa.size; omega
    have hil := insk_len zs v p (by omega)
    have HR2 : Hid (Row w2 g 34 (kvs (insk zs v p) ++ rest)) := hr2
    have HL2 : Hid ((kvs (insk zs v p) ++ rest).length = cap * 2) := hl2
    have HIL : Hid ((insk zs v p).length = n + 1) := by rw [← hl]; exact hil
    have HC2 : Hid (Row w2 Bc 3 [.int .i64 c]) := (HC1.out.alloc _).ext hx2 (by simp)
    have hgc : Bc ≠ g := by omega
    clear hr2 hl2 hil hg hxa hx2
    by_cases hd : keep < n + 1
    · obtain ⟨d, hd1⟩ : ∃ d : Nat, n + 1 - keep = d := ⟨_, rfl⟩
      have q1 : (n : Int) + 1 - keep = d := by omega
      have q2 : (0 : Int) < d := by omega
      go_wp2_with fail
      refine (delete_kv g (n + 1) d cap (kvs (insk zs v p)) rest _ (by rw [kvs_len, HIL.out]) HR2.out HL2.out (kvs_one _) (by omega) (by omega) (by omega)).mono ?_
      rintro e w3 ⟨rfl, hx3, R', hr3⟩
      rw [kvs_drop] at hr3
      have HR3 : Hid (Row w3 g 34 (kvs ((insk zs v p).drop d) ++ R')) := hr3
      have HC3 : Hid (Row w3 Bc 3 [.int .i64 c]) := HC2.out.ext hx3 (by simpa using hgc)
      have hx4 : Ext [Bc] w w3 := hx12.next hx3 (by simp; omega)
      clear hr3 hx3
      go_wp2
      go_ret2
      rw [hd1]
      exact ⟨p, c, HP.out, hx4, HC3.out, hcp, .inr ⟨HH.out, g, cap, R', ret_two (by simp), hgw, HR3.out⟩⟩
    · have hd1 : n + 1 - keep = 0 := by omega
      have q1 : ¬ (0 : Int) < (n : Int) + 1 - keep := by omega
      go_wp2
      go_ret2
      rw [hd1]
      exact ⟨p, c, HP.out, hx12, HC2.out, hcp, .inr ⟨HH.out, g, cap, rest, ret_two (by simp), hgw, HR2.out⟩⟩

end Go.Proofs.Ybulkcure
