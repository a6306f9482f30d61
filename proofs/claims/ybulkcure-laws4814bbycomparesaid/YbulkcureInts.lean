/- slices.Clone, Insert, Delete, BinarySearchFunc, Equal at []int; insertKept at int: contracts. -/
import Derived.Test.YbulkcureRows
import Derived.Test.YbulkcureMem
import Derived.Deep.RegionHeld3
import Derived.Deep.DrawnRows
import Derived.Deep.QuietTactic
import Derived.BigQuiet
namespace Go.Proofs.Ybulkcure
open Go.RowKit Mem

attribute [local go_sem ↓] Go.wp_at_zero Go.wp_at_succ

theorem Yba.info3 : (Yba.prog.info? 3).map (fun i => (i.zero, i.size, i.bytes)) = some (some (.int .i64 0), 1, 8) := by kernel_rfl

def Halt (p : Prop) : Prop := p
theorem Halt.out {p : Prop} (h : Halt p) : p := h

theorem seg_take {w : World} {p : Option Addr} {X : List Value} (h : Seg w p X) (n : Nat) : Seg w p (X.take n) := by
  rcases h with rfl | ⟨b, o, h1, h2, h3⟩
  · exact .inl (by simp)
  · exact .inr ⟨b, o, h1, h2, fun j u hu => h3 j u (by rw [List.getElem?_take] at hu; split at hu; exact hu; cases hu)⟩
theorem seg_drop {w : World} {b o : Nat} {X : List Value} (h : Seg w (some ⟨b, o, none⟩) X) (n : Nat) : Seg w (some ⟨b, o + n, none⟩) (X.drop n) := by
  rcases h with rfl | ⟨b', o', h1, h2, h3⟩
  · exact .inl (by simp)
  · simp only [Option.some.injEq, Addr.mk.injEq, and_true] at h1
    obtain ⟨rfl, rfl⟩ := h1
    exact .inr ⟨b, o + n, rfl, h2, fun j u hu => by rw [List.getElem?_drop] at hu; have := h3 _ u hu; rwa [← Nat.add_assoc] at this⟩

/-- 'slices.Clone(s)', s not nil -/
theorem clone_int (b o n cap : Nat) (X : List Value) (w : World) (hX : X.length = n) (hs : Seg w (some ⟨b, o, none⟩) X) (hn : n ≤ 100000) :
    Calls Yba.prog 6 #[.slice (some ⟨b, o, none⟩) n cap] w fun e w' => ∃ g cap', e = .returned (.slice (some ⟨g, 0, none⟩) n cap') ∧ w.heap.size ≤ g ∧ Ext [] w w' ∧ ∃ rest, Row w' g 3 (X ++ rest) := by
  obtain ⟨i, hi, hz0, hz1, hz2⟩ := info_parts Yba.info3
  have he := fun w => Lib.run_eql_slice_nil (P := Yba.prog) w 25 3 (some ⟨b, o, none⟩) n cap 0 0 Yba.underlying25
  by_cases h0 : n = 0
  · subst h0
    obtain rfl : X = [] := List.eq_nil_of_length_eq_zero hX
    go_enter Yba.func6, Yba.ntmps6
    go_wp2_with (at_builtin; refine wpList_append_room rfl (.tmp 5) (.tmp 6) 25 rfl 3 i Yba.underlying25 hi w.heap.size 0 0 0 _ 0 cap (by rfl) (by rfl) [] (by simp) (Seg.nil _ _) (by simp) (by omega) 3 [] (row_new rfl 3 []) (by simp) ?_; intro w1 hx1 hz1' hr1)
    go_ret
    exact ⟨w.heap.size, 0, rfl, Nat.le_refl _, ((Ext.refl [] w).alloc _).next hx1 (fun g hg hlt => by simp at hg; omega), _, hr1⟩
  · go_enter Yba.func6, Yba.ntmps6
    go_wp2_with (at_builtin; refine wpList_append_grow rfl (.tmp 5) (.tmp 6) 25 rfl 3 i _ Yba.underlying25 hi hz0 (by rw [hz1]; rfl) _ 0 0 _ n cap (by rfl) (by rfl) [] X (by simp) (Seg.nil _ _) (by rw [hz1, hX, Nat.mul_one]) (hs.keep ((Ext.refl [] w).alloc _)) (by omega) (by omega) (by rw [hz2]; omega) ?_; intro w1 cap' rest hx1 hs1 hc1 hl1 hr1)
    go_ret
    exact ⟨w.heap.size + 1, cap', rfl, by omega, ((Ext.refl [] w).alloc _).next hx1 (by simp), rest, by rw [size_alloc] at hr1; exact hr1⟩

theorem Yba.size3 : ∀ w, (sizeOf (Yba.prog.elem 25)).run Yba.prog w = .ok 1 w := fun _ => by kernel_rfl
theorem Yba.ue25 : Yba.prog.underlying 25 = some (.slice (Yba.prog.elem 25)) := by kernel_rfl
/-- cuts of a []int -/
theorem icut_l (a : Option Addr) (len cap l : Nat) (L : Int) (hL : L = l) (h1 : l ≤ len) (w : World) :
    (Instr.slice 25 (.slice a len cap) (some (.int .i64 L)) none none).run Yba.prog w = .ok (.slice (if cap = l then a else a.map (fun x => x.add l)) (len - l) (cap - l)) w := by
  subst hL
  rw [run_slice_l w 25 a len cap Yba.ue25 _ _ (by omega) (by omega), Yba.size3]
  simp [sliced]
theorem icut_l' (b o len cap l n c : Nat) (L : Int) (hL : L = l) (h1 : l < cap) (hn : l + n = len) (hc : l + c = cap) (w : World) :
    (Instr.slice 25 (.slice (some ⟨b, o, none⟩) len cap) (some (.int .i64 L)) none none).run Yba.prog w = .ok (.slice (some ⟨b, o + l, none⟩) n c) w := by
  rw [icut_l _ len cap l _ hL (by omega), if_neg (by omega), show len - l = n from by omega, show cap - l = c from by omega]
  simp [Addr.add]
theorem icut_h (a : Option Addr) (len cap h : Nat) (H : Int) (hH : H = h) (h2 : h ≤ cap) (w : World) :
    (Instr.slice 25 (.slice a len cap) none (some (.int .i64 H)) none).run Yba.prog w = .ok (.slice a h cap) w := by
  subst hH
  rw [run_slice_h w 25 a len cap Yba.ue25 _ _ (by omega) (by omega), Yba.size3]
  simp only [sliced, Result.andThen, Int.toNat_natCast, Nat.sub_zero]
  cases a <;> simp [Addr.add]
theorem icut_lh (b o len cap l n c : Nat) (L H : Int) (hL : L = l) (hH : H = l + n) (h1 : l < cap) (h2 : l + n ≤ cap) (hc : l + c = cap) (w : World) :
    (Instr.slice 25 (.slice (some ⟨b, o, none⟩) len cap) (some (.int .i64 L)) (some (.int .i64 H)) none).run Yba.prog w = .ok (.slice (some ⟨b, o + l, none⟩) n c) w := by
  have hH' : H = ((l + n : Nat) : Int) := by omega
  subst hL hH'
  rw [run_slice_lh w 25 _ len cap Yba.ue25 _ _ _ _ (by omega) (by omega) (by omega), Yba.size3]
  have e1 : ¬ cap = l := by omega
  have e2 : cap - l = c := by omega
  simp [sliced, e1, e2, Addr.add]
  omega

/-- where 'x[i:]' begins -/
theorem splice_end (L Y : List Value) (R : List Value) (n : Nat) (hL : L.length = n) (h : n + Y.length ≤ (L ++ R).length) : ∃ R', splice (L ++ R) n Y = L ++ (Y ++ R') ∧ (L ++ (Y ++ R')).length = (L ++ R).length := by
  subst hL
  refine ⟨(L ++ R).drop (L.length + Y.length), ?_, ?_⟩
  · unfold splice
    rw [List.take_left']
    rfl
  · simp at h ⊢
    omega

set_option maxHeartbeats 1000000 in
/-- 'slices.Insert(s, i, v)', s full: a new row -/
theorem insert_int (b o n i Bv : Nat) (X V : List Value) (w : World) (hX : X.length = n) (hs : Seg w (some ⟨b, o, none⟩) X) (hV : V.length = 1) (hv : Seg w (some ⟨Bv, 0, none⟩) V)
    (h1 : ∀ u ∈ X, u.oneCell' = true) (h2 : ∀ u ∈ V, u.oneCell' = true) (hn : n ≤ 100000) (hi : i ≤ n) :
    Calls Yba.prog 18 #[.slice (some ⟨b, o, none⟩) n n, .int .i64 i, .slice (some ⟨Bv, 0, none⟩) 1 1] w fun e w' =>
      ∃ g cap' rest, e = .returned (.slice (some ⟨g, 0, none⟩) (n + 1) cap') ∧ w.heap.size ≤ g ∧ n + 1 ≤ cap' ∧ Ext [] w w' ∧ Row w' g 3 ((X.take i ++ (V ++ X.drop i)) ++ rest) ∧ ((X.take i ++ (V ++ X.drop i)) ++ rest).length = cap' := by
  obtain ⟨ti, hti, hz0, hz1, hz2⟩ := info_parts Yba.info3
  obtain ⟨A, hA⟩ : ∃ A, (if n = i then some ⟨b, o, none⟩ else (some (⟨b, o, none⟩ : Addr)).map (fun x => x.add i)) = A := ⟨_, rfl⟩
  have s0 : ∀ w, (Instr.slice 25 (.slice (some ⟨b, o, none⟩) n n) (some (.int .i64 i)) none none).run Yba.prog w = .ok (.slice A (n - i) (n - i)) w := by
    intro w
    rw [icut_l _ n n i _ rfl hi, hA]
  by_cases hin : i = n
  · subst hin
    clear hA
    have q0 : ((i : Int) == (i : Int)) = true := by simp
    go_enter Yba.func18, Yba.ntmps18
    go_wp2_with (at_builtin; refine wpList_append_grow rfl (.tmp 23) (.tmp 24) 25 rfl 3 ti _ Yba.underlying25 hti hz0 (by rw [hz1]; rfl) _ i i _ 1 1 (by rfl) (by rfl) X V (by rw [hz1, hX, Nat.mul_one]) hs (by rw [hz1, hV]) hv (by omega) (by omega) (by rw [hz2]; omega) ?_; intro w1 cap' rest hx1 hs1 hc1 hl1 hr1)
    go_wp2
    go_ret
    have e1 : X.take i = X := List.take_of_length_le (by omega)
    have e2 : X.drop i = [] := List.drop_eq_nil_of_le (by omega)
    refine ⟨w.heap.size, cap', rest, rfl, Nat.le_refl _, hc1, hx1, ?_, ?_⟩
    · rw [e1, e2, List.append_nil, List.append_assoc]; exact hr1
    · rw [e1, e2, List.append_nil, List.append_assoc, hl1, hz1, Nat.mul_one]
  · have hlt : i < n := by omega
    rw [if_neg (fun e => hin e.symm)] at hA
    obtain rfl : some ⟨b, o + i, none⟩ = A := by rw [← hA]; simp [Addr.add]
    clear hA
    have q0 : ((i : Int) == (n : Int)) = false := by simp; omega
    have q1 : (n : Int) < (n : Int) + 1 := by omega
    have q2 : (i : Int) < n := by omega
    have q3 : (n : Int) ≤ 100000 := by omega
    have s1 : ∀ w, (Instr.slice 25 (.slice (some ⟨b, o, none⟩) n n) none (some (.int .i64 i)) none).run Yba.prog w = .ok (.slice (some ⟨b, o, none⟩) i n) w := icut_h _ n n i _ rfl (by omega)
    obtain ⟨k, hk⟩ : ∃ k : Nat, i + k = n + 1 := ⟨n + 1 - i, by omega⟩
    have q4 : (n : Int) + 1 - i = k := by omega
    go_enter Yba.func18, Yba.ntmps18
    go_wp2_with (at_builtin; refine Halt.out ?_)
    unfold Halt
    refine wpList_append_zeros rfl (.tmp 34) (.tmp 39) 25 3 rfl 3 ti _ .i64 Yba.underlying25 Yba.underlying3 hti hz0 (by rw [hz1]; rfl) (by rw [hz1]; omega) _ i n k .i64 rfl rfl (by omega) (X.take i) (by rw [hz1]; simp; omega) (seg_take hs i) (by omega) (by omega) (by rw [hz2]; omega) ?_
    intro w1 cap' rest hx1 hs1 hc1 hl1 hr1
    rw [hk]
    rw [hk] at hc1
    rw [hz1, Nat.mul_one] at hl1
    obtain ⟨H, hH⟩ : ∃ H, w.heap.size = H := ⟨_, rfl⟩
    rw [hH] at hr1 hs1 ⊢
    have xt : (X.take i).length = i := by simp; omega
    have xd : (X.drop i).length = n - i := by simp; omega
    obtain ⟨R1, e1, el1⟩ := splice_end (X.take i) V rest i xt (by rw [hl1, hV]; omega)
    have hcp := fun ty => run_copy_some (P := Yba.prog) (w := w1) 25 25 3 ty ti Yba.underlying25 hti (some ⟨H, i, none⟩) (some ⟨Bv, 0, none⟩) (n + 1 - i) (cap' - i) 1 1 H i _ 3 hr1 V (by rw [hz1, hV, Nat.mul_one]; exact (Nat.min_eq_left (by omega)).symm) (hv.keep hx1) (fun _ => rfl) (by rw [hl1, hV]; omega) h2
    rw [e1, show Nat.min 1 (n + 1 - i) = 1 from Nat.min_eq_left (by omega)] at hcp
    obtain ⟨w2, hw2⟩ : ∃ w2, w1.setRow H (X.take i ++ (V ++ R1)).toArray = w2 := ⟨_, rfl⟩
    have hx2 : Ext [H] w1 w2 := by rw [← hw2]; exact Ext.setRow _ _ _
    have hr2 : Row w2 H 3 ((X.take i ++ V) ++ R1) := by rw [← hw2, List.append_assoc]; exact setRow_heap _ _ _ _ _ _ hr1
    rw [hw2] at hcp
    clear hw2 hr1
    have s2 : ∀ w, (Instr.slice 25 (.slice (some ⟨H, 0, none⟩) (n + 1) cap') (some (.int .i64 i)) none none).run Yba.prog w = .ok (.slice (some ⟨H, i, none⟩) (n + 1 - i) (cap' - i)) w := by
      have := icut_l' H 0 (n + 1) cap' i (n + 1 - i) (cap' - i) i rfl (by omega) (by omega) (by omega)
      simpa using this
    have s3 : ∀ w, (Instr.slice 25 (.slice (some ⟨H, 0, none⟩) (n + 1) cap') (some (.int .i64 ((i : Int) + 1))) none none).run Yba.prog w = .ok (.slice (some ⟨H, i + 1, none⟩) (n - i) (cap' - (i + 1))) w := by
      have := icut_l' H 0 (n + 1) cap' (i + 1) (n - i) (cap' - (i + 1)) ((i : Int) + 1) (by omega) (by omega) (by omega) (by omega)
      simpa using this
    have i5 : IntKind.i64.wrap ((i : Int) + 1) = (i : Int) + 1 := IntWalk.i64_in _ (by omega)
    have hs2 : Seg w2 (some ⟨b, o + i, none⟩) (X.drop i) := by
      have h3 := (seg_drop hs i).keep hx1
      rcases seg_drop hs i with h | ⟨b', o', h4, h5, h6⟩
      · exact .inl h
      · refine .inr ⟨b', o', h4, Nat.lt_of_lt_of_le h5 (Nat.le_trans hx1.size hx2.size), fun j u hu => ?_⟩
        rw [hx2.cell (Nat.lt_of_lt_of_le h5 hx1.size) (by simp; omega), hx1.cell h5 (by simp)]
        exact h6 j u hu
    obtain ⟨R2, e2, el2⟩ := splice_end (X.take i ++ V) (X.drop i) R1 (i + 1) (by simp [xt, hV]) (by rw [List.append_assoc, el1, hl1, xd]; omega)
    have HL : Hid ((X.take i ++ V ++ R1).length = cap') := by rw [List.append_assoc, el1, hl1]; rfl
    have HX : Hid (∀ u ∈ X.drop i, u.oneCell' = true) := fun u hu => h1 u (List.mem_of_mem_drop hu)
    have HN : Hid ((X.drop i).length = Nat.min (n - i) (n - i) * ti.size) := by rw [hz1, Nat.mul_one, xd]; exact (Nat.min_self _).symm
    have HE : Hid (splice (X.take i ++ V ++ R1) (i + 1) (X.drop i) = X.take i ++ V ++ (X.drop i ++ R2)) := e2
    have HF : Hid (i + 1 + (X.drop i).length ≤ (X.take i ++ V ++ R1).length) := by rw [HL.out, xd]; exact (by omega : i + 1 + (n - i) ≤ cap')
    have HS2 : Hid (Seg w2 (some ⟨b, o + i, none⟩) (X.drop i)) := hs2
    have HR2 : Hid (Row w2 H 3 ((X.take i ++ V) ++ R1)) := hr2
    have HEL : Hid ((X.take i ++ V ++ (X.drop i ++ R2)).length = cap') := by rw [el2, HL.out]; rfl
    clear e1 el1 e2 el2 hs2 hr2 hl1
    go_wp2
    go_region_held3 (fun _ => True) (trivial) ((refine step_of_wp rfl (copy_wp (.tmp 50) (.tmp 53) 25 25 rfl 3 ti Yba.underlying25 hti _ _ (n - i) _ (n - i) _ (by rfl) (by rfl) H (i + 1) _ 3 (by exact HR2.out) (X.drop i) HN.out (by exact HS2.out) (fun _ => rfl) HF.out HX.out ?_); intro w3 hx3 hs3 hr3))
    rw [HE.out] at hr3
    go_wp2
    go_ret
    refine ⟨H, cap', R2, rfl, by omega, by omega, ?_, ?_, ?_⟩
    · have hx3' : Ext [H] w2 w3 := ⟨hx3.os, hx3.tape, hx3.output, hx3.size, hx3.block⟩
      exact (hx1.next hx2 (by simp; omega)).next hx3' (by simp; omega)
    · simpa [List.append_assoc] using hr3
    · have := HEL.out
      simpa [List.append_assoc] using this

end Go.Proofs.Ybulkcure
