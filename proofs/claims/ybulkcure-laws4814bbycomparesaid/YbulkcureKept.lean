/- insertKept at int: its contract. -/
import Derived.Test.YbulkcureInts2
namespace Go.Proofs.Ybulkcure
open Go.RowKit Mem

/-- zs with v at p -/
def ins (zs : List Int) (v : Int) (p : Nat) : List Int := zs.take p ++ (v :: zs.drop p)
theorem ins_len (zs : List Int) (v : Int) (p : Nat) (h : p ≤ zs.length) : (ins zs v p).length = zs.length + 1 := by simp [ins]; omega
theorem ints_ins (zs : List Int) (v : Int) (p : Nat) : (ints zs).take p ++ ([Value.int .i64 v] ++ (ints zs).drop p) = ints (ins zs v p) := by simp [ints, ins]
theorem ints_drop (zs : List Int) (n : Nat) : (ints zs).drop n = ints (zs.drop n) := by simp [ints]

set_option maxHeartbeats 1000000 in
theorem kept_int (b o n keep : Nat) (v : Int) (zs : List Int) (w : World) (hl : zs.length = n) (hn : n ≤ 10000) (hk : keep ≤ 10000) (hs : Seg w (some ⟨b, o, none⟩) (ints zs)) (hz : Asc zs) :
    Calls Yba.prog 9 #[.slice (some ⟨b, o, none⟩) n n, .int .i64 v, .func (.func 7) #[] #[], .int .i64 keep] w fun e w' => ∃ p : Nat, Place zs v p ∧ Ext [] w w' ∧
      ((hit zs v p = true ∧ e = .returned (.tuple #[.slice (some ⟨b, o, none⟩) n n, .bool false])) ∨
       (hit zs v p = false ∧ ∃ g cap R, e = .returned (.tuple #[.slice (some ⟨g, 0, none⟩) (n + 1 - (n + 1 - keep)) cap, .bool (decide (n + 1 - keep ≤ p))]) ∧ w.heap.size ≤ g ∧ Row w' g 3 (ints ((ins zs v p).drop (n + 1 - keep)) ++ R))) := by
  have HS : Hid (Seg w (some ⟨b, o, none⟩) (ints zs)) := hs
  have HZ : Hid (Asc zs) := hz
  clear hs hz
  go_enter Yba.func9, Yba.ntmps9
  go_wp2_with fail
  refine (search_int b o n n _ v zs _ hl (by omega) HS.out HZ.out rfl).mono ?_
  rintro e w1 ⟨p, rfl, hP, hx1⟩
  have HP : Hid (Place zs v p) := hP
  have hpn : p ≤ n := by rw [← hl]; exact hP.1
  clear hP
  by_cases hh : hit zs v p = true
  · rw [hh]
    go_wp2
    go_ret2
    exact ⟨p, HP.out, hx1, .inl ⟨hh, rfl⟩⟩
  · have hh' : hit zs v p = false := by simpa using hh
    rw [hh']
    have HH : Hid (hit zs v p = false) := hh'
    clear hh hh'
    go_wp2_with fail
    refine (insert_int b o n p w1.heap.size (ints zs) [.int .i64 v] _ (by rw [ints_len, hl]) ((HS.out.keep hx1).keep ((Ext.refl [] w1).alloc _)) rfl (Seg.ofRow (row_new rfl 3 [.int .i64 v]) 0 _ (by simp)) (ints_one zs) (by simp [Value.oneCell']) (by omega) hpn).mono ?_
    rintro e w2 ⟨g, cap, rest, rfl, hg, hc, hx2, hr2, hl2⟩
    rw [ints_ins] at hr2 hl2
    have hx12 : Ext [] w w2 := (hx1.alloc _).trans hx2
    have hgw : w.heap.size ≤ g := by rw [size_alloc] at hg; have := hx1.size; omega
    have hil := ins_len zs v p (by omega)
    have HR2 : Hid (Row w2 g 3 (ints (ins zs v p) ++ rest)) := hr2
    have HL2 : Hid ((ints (ins zs v p) ++ rest).length = cap) := hl2
    have HIL : Hid ((ins zs v p).length = n + 1) := by rw [← hl]; exact hil
    clear hr2 hl2 hil hg hx1 hx2
    by_cases hd : keep < n + 1
    · obtain ⟨d, hd1⟩ : ∃ d : Nat, n + 1 - keep = d := ⟨_, rfl⟩
      have q1 : (n : Int) + 1 - keep = d := by omega
      have q2 : (0 : Int) < d := by omega
      go_wp2_with fail
      refine (delete_int g (n + 1) d cap (ints (ins zs v p)) rest _ (by rw [ints_len]; exact HIL.out) HR2.out HL2.out (ints_one _) (by omega) (by omega) (by omega)).mono ?_
      rintro e w3 ⟨rfl, hx3, R', hr3⟩
      rw [ints_drop] at hr3
      have HR3 : Hid (Row w3 g 3 (ints ((ins zs v p).drop d) ++ R')) := hr3
      have hx4 : Ext [] w w3 := hx12.next hx3 (by simp; omega)
      clear hr3 hx3
      go_wp2
      go_ret2
      rw [hd1]
      exact ⟨p, HP.out, hx4, .inr ⟨HH.out, g, cap, R', ret_two (by simp), hgw, HR3.out⟩⟩
    · have hd1 : n + 1 - keep = 0 := by omega
      have q1 : ¬ (0 : Int) < (n : Int) + 1 - keep := by omega
      go_wp2
      go_ret2
      rw [hd1]
      exact ⟨p, HP.out, hx12, .inr ⟨HH.out, g, cap, rest, ret_two (by simp), hgw, HR2.out⟩⟩

end Go.Proofs.Ybulkcure
