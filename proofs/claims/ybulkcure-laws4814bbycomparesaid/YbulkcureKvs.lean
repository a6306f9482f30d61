/- slices.Clone and Insert at []zzs4814bkv: contracts (the elements' cells lie two by two). -/
import Derived.Test.YbulkcurePlain
namespace Go.Proofs.Ybulkcure
open Go.RowKit Mem

attribute [local go_sem ↓] Go.wp_at_zero Go.wp_at_succ

theorem Yba.info34 : (Yba.prog.info? 34).map (fun i => (i.zero, i.size, i.bytes)) = some (some (.agg #[.int .i64 0, .int .i64 0]), 2, 16) := by kernel_rfl

/-- 'slices.Clone(s)', s not nil -/
theorem clone_kv (b o n cap : Nat) (X : List Value) (w : World) (hX : X.length = n * 2) (hs : Seg w (some ⟨b, o, none⟩) X) (hn : n ≤ 100000) :
    Calls Yba.prog 11 #[.slice (some ⟨b, o, none⟩) n cap] w fun e w' => ∃ g cap', e = .returned (.slice (some ⟨g, 0, none⟩) n cap') ∧ w.heap.size ≤ g ∧ Ext [] w w' ∧ ∃ rest, Row w' g 34 (X ++ rest) := by
  obtain ⟨i, hi, hz0, hz1, hz2⟩ := info_parts Yba.info34
  have he := fun w => Lib.run_eql_slice_nil (P := Yba.prog) w 32 34 (some ⟨b, o, none⟩) n cap 0 0 Yba.underlying32
  by_cases h0 : n = 0
  · subst h0
    obtain rfl : X = [] := List.eq_nil_of_length_eq_zero hX
    go_enter Yba.func11, Yba.ntmps11
    go_wp2_with (at_builtin; refine wpList_append_room rfl (.tmp 5) (.tmp 6) 32 rfl 34 i Yba.underlying32 hi w.heap.size 0 0 0 _ 0 cap (by rfl) (by rfl) [] (by simp) (Seg.nil _ _) (by simp) (by omega) 34 [] (row_new rfl 34 []) (by simp) ?_; intro w1 hx1 hz1' hr1)
    go_ret
    exact ⟨w.heap.size, 0, rfl, Nat.le_refl _, ((Ext.refl [] w).alloc _).next hx1 (fun g hg hlt => by simp at hg; omega), _, hr1⟩
  · go_enter Yba.func11, Yba.ntmps11
    go_wp2_with (at_builtin; refine wpList_append_grow rfl (.tmp 5) (.tmp 6) 32 rfl 34 i _ Yba.underlying32 hi hz0 (by rw [hz1]; rfl) _ 0 0 _ n cap (by rfl) (by rfl) [] X (by simp) (Seg.nil _ _) (by rw [hz1, hX]) (hs.keep ((Ext.refl [] w).alloc _)) (by omega) (by omega) (by rw [hz2]; omega) ?_; intro w1 cap' rest hx1 hs1 hc1 hl1 hr1)
    go_ret
    exact ⟨w.heap.size + 1, cap', rfl, by omega, ((Ext.refl [] w).alloc _).next hx1 (by simp), rest, by rw [size_alloc] at hr1; exact hr1⟩

theorem Yba.size34 : ∀ w, (sizeOf (Yba.prog.elem 32)).run Yba.prog w = .ok 2 w := fun _ => by kernel_rfl
theorem Yba.ue32 : Yba.prog.underlying 32 = some (.slice (Yba.prog.elem 32)) := by kernel_rfl
/-- cuts of a slice of two-celled elements -/
theorem kcut_l (a : Option Addr) (len cap l : Nat) (L : Int) (hL : L = l) (h1 : l ≤ len) (w : World) :
    (Instr.slice 32 (.slice a len cap) (some (.int .i64 L)) none none).run Yba.prog w = .ok (.slice (if cap = l then a else a.map (fun x => x.add (l * 2))) (len - l) (cap - l)) w := by
  subst hL
  rw [run_slice_l w 32 a len cap Yba.ue32 _ _ (by omega) (by omega), Yba.size34]
  simp [sliced]
theorem kcut_l' (b o len cap l n c : Nat) (L : Int) (hL : L = l) (h1 : l < cap) (hn : l + n = len) (hc : l + c = cap) (w : World) :
    (Instr.slice 32 (.slice (some ⟨b, o, none⟩) len cap) (some (.int .i64 L)) none none).run Yba.prog w = .ok (.slice (some ⟨b, o + l * 2, none⟩) n c) w := by
  rw [kcut_l _ len cap l _ hL (by omega), if_neg (by omega), show len - l = n from by omega, show cap - l = c from by omega]
  simp [add_flat]
theorem kcut_h (a : Option Addr) (len cap h : Nat) (H : Int) (hH : H = h) (h2 : h ≤ cap) (w : World) :
    (Instr.slice 32 (.slice a len cap) none (some (.int .i64 H)) none).run Yba.prog w = .ok (.slice a h cap) w := by
  subst hH
  rw [run_slice_h w 32 a len cap Yba.ue32 _ _ (by omega) (by omega), Yba.size34]
  simp only [sliced, Result.andThen, Int.toNat_natCast, Nat.sub_zero]
  cases a <;> simp [Addr.add]
theorem kcut_lh (b o len cap l n c : Nat) (L H : Int) (hL : L = l) (hH : H = l + n) (h1 : l < cap) (h2 : l + n ≤ cap) (hc : l + c = cap) (w : World) :
    (Instr.slice 32 (.slice (some ⟨b, o, none⟩) len cap) (some (.int .i64 L)) (some (.int .i64 H)) none).run Yba.prog w = .ok (.slice (some ⟨b, o + l * 2, none⟩) n c) w := by
  have hH' : H = ((l + n : Nat) : Int) := by omega
  subst hL hH'
  rw [run_slice_lh w 32 _ len cap Yba.ue32 _ _ _ _ (by omega) (by omega) (by omega), Yba.size34]
  have e1 : ¬ cap = l := by omega
  have e2 : cap - l = c := by omega
  simp [sliced, e1, e2, add_flat]
  omega

set_option maxHeartbeats 1000000 in
/-- 'slices.Insert(s, i, v)', s full: a new row -/
theorem insert_kv (b o n i Bv : Nat) (X V : List Value) (w : World) (hX : X.length = n * 2) (hs : Seg w (some ⟨b, o, none⟩) X) (hV : V.length = 2) (hv : Seg w (some ⟨Bv, 0, none⟩) V)
    (h1 : ∀ u ∈ X, u.oneCell' = true) (h2 : ∀ u ∈ V, u.oneCell' = true) (hn : n ≤ 100000) (hi : i ≤ n) :
    Calls Yba.prog 21 #[.slice (some ⟨b, o, none⟩) n n, .int .i64 i, .slice (some ⟨Bv, 0, none⟩) 1 1] w fun e w' =>
      ∃ g cap' rest, e = .returned (.slice (some ⟨g, 0, none⟩) (n + 1) cap') ∧ w.heap.size ≤ g ∧ n + 1 ≤ cap' ∧ Ext [] w w' ∧ Row w' g 34 ((X.take (i * 2) ++ (V ++ X.drop (i * 2))) ++ rest) ∧ ((X.take (i * 2) ++ (V ++ X.drop (i * 2))) ++ rest).length = cap' * 2 := by
  obtain ⟨ti, hti, hz0, hz1, hz2⟩ := info_parts Yba.info34
  obtain ⟨A, hA⟩ : ∃ A, (if n = i then some ⟨b, o, none⟩ else (some (⟨b, o, none⟩ : Addr)).map (fun x => x.add (i * 2))) = A := ⟨_, rfl⟩
  have s0 : ∀ w, (Instr.slice 32 (.slice (some ⟨b, o, none⟩) n n) (some (.int .i64 i)) none none).run Yba.prog w = .ok (.slice A (n - i) (n - i)) w := by
    intro w
    rw [kcut_l _ n n i _ rfl hi, hA]
  by_cases hin : i = n
  · subst hin
    clear hA
    have q0 : ((i : Int) == (i : Int)) = true := by simp
    go_enter Yba.func21, Yba.ntmps21
    go_wp2_with (at_builtin; refine wpList_append_grow rfl (.tmp 23) (.tmp 24) 32 rfl 34 ti _ Yba.underlying32 hti hz0 (by rw [hz1]; rfl) _ i i _ 1 1 (by rfl) (by rfl) X V (by rw [hz1, hX]) hs (by rw [hz1, hV]) hv (by omega) (by omega) (by rw [hz2]; omega) ?_; intro w1 cap' rest hx1 hs1 hc1 hl1 hr1)
    go_wp2
    go_ret
    have e1 : X.take (i * 2) = X := List.take_of_length_le (by omega)
    have e2 : X.drop (i * 2) = [] := List.drop_eq_nil_of_le (by omega)
    refine ⟨w.heap.size, cap', rest, rfl, Nat.le_refl _, hc1, hx1, ?_, ?_⟩
    · rw [e1, e2, List.append_nil, List.append_assoc]; exact hr1
    · rw [e1, e2, List.append_nil, List.append_assoc, hl1, hz1]
  · have hlt : i < n := by omega
    rw [if_neg (fun e => hin e.symm)] at hA
    obtain rfl : some ⟨b, o + i * 2, none⟩ = A := by rw [← hA]; simp [add_flat]
    clear hA
    have q0 : ((i : Int) == (n : Int)) = false := by simp; omega
    have q1 : (n : Int) < (n : Int) + 1 := by omega
    have q2 : (i : Int) < n := by omega
    have q3 : (n : Int) ≤ 100000 := by omega
    have s1 : ∀ w, (Instr.slice 32 (.slice (some ⟨b, o, none⟩) n n) none (some (.int .i64 i)) none).run Yba.prog w = .ok (.slice (some ⟨b, o, none⟩) i n) w := kcut_h _ n n i _ rfl (by omega)
    obtain ⟨k, hk⟩ : ∃ k : Nat, i + k = n + 1 := ⟨n + 1 - i, by omega⟩
    have q4 : (n : Int) + 1 - i = k := by omega
    go_enter Yba.func21, Yba.ntmps21
    go_wp2_with (at_builtin; refine Halt.out ?_)
    unfold Halt
    refine wpList_append_zeros rfl (.tmp 34) (.tmp 39) 32 3 rfl 34 ti _ .i64 Yba.underlying32 Yba.underlying3 hti hz0 (by rw [hz1]; rfl) (by rw [hz1]; omega) _ i n k .i64 rfl rfl (by omega) (X.take (i * 2)) (by rw [hz1]; simp; omega) (seg_take hs (i * 2)) (by omega) (by omega) (by rw [hz2]; omega) ?_
    intro w1 cap' rest hx1 hs1 hc1 hl1 hr1
    rw [hk]
    rw [hk] at hc1
    rw [hz1] at hl1
    obtain ⟨H, hH⟩ : ∃ H, w.heap.size = H := ⟨_, rfl⟩
    rw [hH] at hr1 hs1 ⊢
    have xt : (X.take (i * 2)).length = i * 2 := by simp; omega
    have xd : (X.drop (i * 2)).length = (n - i) * 2 := by simp; omega
    obtain ⟨R1, e1, el1⟩ := splice_end (X.take (i * 2)) V rest (i * 2) xt (by rw [hl1, hV]; omega)
    have hcp := fun ty => run_copy_some (P := Yba.prog) (w := w1) 32 32 34 ty ti Yba.underlying32 hti (some ⟨H, i * 2, none⟩) (some ⟨Bv, 0, none⟩) (n + 1 - i) (cap' - i) 1 1 H (i * 2) _ 34 hr1 V (by rw [hz1, hV, show Nat.min 1 (n + 1 - i) = 1 from Nat.min_eq_left (by omega)]) (hv.keep hx1) (fun _ => rfl) (by rw [hl1, hV]; omega) h2
    rw [e1, show Nat.min 1 (n + 1 - i) = 1 from Nat.min_eq_left (by omega)] at hcp
    obtain ⟨w2, hw2⟩ : ∃ w2, w1.setRow H (X.take (i * 2) ++ (V ++ R1)).toArray = w2 := ⟨_, rfl⟩
    have hx2 : Ext [H] w1 w2 := by rw [← hw2]; exact Ext.setRow _ _ _
    have hr2 : Row w2 H 34 ((X.take (i * 2) ++ V) ++ R1) := by rw [← hw2, List.append_assoc]; exact setRow_heap _ _ _ _ _ _ hr1
    rw [hw2] at hcp
    clear hw2 hr1
    have s2 : ∀ w, (Instr.slice 32 (.slice (some ⟨H, 0, none⟩) (n + 1) cap') (some (.int .i64 i)) none none).run Yba.prog w = .ok (.slice (some ⟨H, i * 2, none⟩) (n + 1 - i) (cap' - i)) w := by
      have := kcut_l' H 0 (n + 1) cap' i (n + 1 - i) (cap' - i) i rfl (by omega) (by omega) (by omega)
      simpa using this
    have s3 : ∀ w, (Instr.slice 32 (.slice (some ⟨H, 0, none⟩) (n + 1) cap') (some (.int .i64 ((i : Int) + 1))) none none).run Yba.prog w = .ok (.slice (some ⟨H, (i + 1) * 2, none⟩) (n - i) (cap' - (i + 1))) w := by
      have := kcut_l' H 0 (n + 1) cap' (i + 1) (n - i) (cap' - (i + 1)) ((i : Int) + 1) (by omega) (by omega) (by omega) (by omega)
      simpa using this
    have i5 : IntKind.i64.wrap ((i : Int) + 1) = (i : Int) + 1 := IntWalk.i64_in _ (by omega)
    have hs2 : Seg w2 (some ⟨b, o + i * 2, none⟩) (X.drop (i * 2)) := by
      rcases seg_drop hs (i * 2) with h | ⟨b', o', h4, h5, h6⟩
      · exact .inl h
      · refine .inr ⟨b', o', h4, Nat.lt_of_lt_of_le h5 (Nat.le_trans hx1.size hx2.size), fun j u hu => ?_⟩
        rw [hx2.cell (Nat.lt_of_lt_of_le h5 hx1.size) (by simp; omega), hx1.cell h5 (by simp)]
        exact h6 j u hu
    obtain ⟨R2, e2, el2⟩ := splice_end (X.take (i * 2) ++ V) (X.drop (i * 2)) R1 ((i + 1) * 2) (by rw [List.length_append, xt, hV]; omega) (by rw [List.append_assoc, el1, hl1, xd]; omega)
    have HL : Hid ((X.take (i * 2) ++ V ++ R1).length = cap' * 2) := by rw [List.append_assoc, el1, hl1]; rfl
    have HX : Hid (∀ u ∈ X.drop (i * 2), u.oneCell' = true) := fun u hu => h1 u (List.mem_of_mem_drop hu)
    have HN : Hid ((X.drop (i * 2)).length = Nat.min (n - i) (n - i) * ti.size) := by rw [hz1, xd, show Nat.min (n - i) (n - i) = n - i from Nat.min_self _]; rfl
    have HE : Hid (splice (X.take (i * 2) ++ V ++ R1) ((i + 1) * 2) (X.drop (i * 2)) = X.take (i * 2) ++ V ++ (X.drop (i * 2) ++ R2)) := e2
    have HF : Hid ((i + 1) * 2 + (X.drop (i * 2)).length ≤ (X.take (i * 2) ++ V ++ R1).length) := by rw [HL.out, xd]; exact (by omega : (i + 1) * 2 + (n - i) * 2 ≤ cap' * 2)
    have HS2 : Hid (Seg w2 (some ⟨b, o + i * 2, none⟩) (X.drop (i * 2))) := hs2
    have HR2 : Hid (Row w2 H 34 ((X.take (i * 2) ++ V) ++ R1)) := hr2
    have HEL : Hid ((X.take (i * 2) ++ V ++ (X.drop (i * 2) ++ R2)).length = cap' * 2) := by rw [el2, HL.out]; rfl
    clear e1 el1 e2 el2 hs2 hr2 hl1
    go_wp2
    go_region_held3 (fun _ => True) (trivial) ((refine step_of_wp rfl (copy_wp (.tmp 50) (.tmp 53) 32 32 rfl 34 ti Yba.underlying32 hti _ _ (n - i) _ (n - i) _ (by rfl) (by rfl) H ((i + 1) * 2) _ 34 (by exact HR2.out) (X.drop (i * 2)) HN.out (by exact HS2.out) (fun _ => rfl) HF.out HX.out ?_); intro w3 hx3 hs3 hr3))
    rw [HE.out] at hr3
    go_wp2
    go_ret
    refine ⟨H, cap', R2, rfl, by omega, by omega, ?_, ?_, ?_⟩
    · have hx3' : Ext [H] w2 w3 := ⟨hx3.os, hx3.tape, hx3.output, hx3.size, hx3.block⟩
      exact (hx1.next hx2 (by simp; omega)).next hx3' (by simp; omega)
    · simpa [List.append_assoc] using hr3
    · have := HEL.out
      simpa [List.append_assoc] using this

set_option maxHeartbeats 1000000 in
/-- 'slices.Delete(s, 0, d)', s in a row that is known whole, 0 < d -/
theorem delete_kv (g m d cap : Nat) (Y R : List Value) (w : World) (hY : Y.length = m * 2) (hr : Row w g 34 (Y ++ R)) (hl : (Y ++ R).length = cap * 2) (h1 : ∀ u ∈ Y, u.oneCell' = true)
    (hd0 : 0 < d) (hd : d ≤ m) (hm : m ≤ 200000) :
    Calls Yba.prog 22 #[.slice (some ⟨g, 0, none⟩) m cap, .int .i64 0, .int .i64 d] w fun e w' =>
      e = .returned (.slice (some ⟨g, 0, none⟩) (m - d) cap) ∧ Ext [g] w w' ∧ ∃ R', Row w' g 34 (Y.drop (d * 2) ++ R') := by
  obtain ⟨ti, hti, hz0, hz1, hz2⟩ := info_parts Yba.info34
  have hmc : m ≤ cap := by rw [List.length_append, hY] at hl; omega
  obtain ⟨r, hr'⟩ : ∃ r, m - d = r := ⟨_, rfl⟩
  have q0 : ((0 : Int) == (d : Int)) = false := by simp; omega
  have s0 : ∀ w, (Instr.slice 32 (.slice (some ⟨g, 0, none⟩) m cap) (some (.int .i64 0)) (some (.int .i64 d)) (some (.int .i64 m))).run Yba.prog w = .ok (.slice (some ⟨g, 0, none⟩) d m) w := by
    intro w
    rw [run_slice_lhm w 32 _ m cap Yba.ue32 _ _ _ _ _ _ (by omega) (by omega) (by omega) (by omega), Yba.size34]
    simp [sliced, Addr.add]
  have s1 : ∀ w, (Instr.slice 32 (.slice (some ⟨g, 0, none⟩) m cap) none (some (.int .i64 0)) none).run Yba.prog w = .ok (.slice (some ⟨g, 0, none⟩) 0 cap) w := kcut_h _ m cap 0 0 rfl (by omega)
  obtain ⟨A, hA⟩ : ∃ A, (if cap = d then some ⟨g, 0, none⟩ else (some (⟨g, 0, none⟩ : Addr)).map (fun x => x.add (d * 2))) = A := ⟨_, rfl⟩
  have s2 : ∀ w, (Instr.slice 32 (.slice (some ⟨g, 0, none⟩) m cap) (some (.int .i64 d)) none none).run Yba.prog w = .ok (.slice A r (cap - d)) w := by
    intro w
    rw [kcut_l _ m cap d _ rfl hd, hA, hr']
  have s3 : ∀ w, (Instr.slice 32 (.slice (some ⟨g, 0, none⟩) r cap) (some (.int .i64 r)) (some (.int .i64 m)) none).run Yba.prog w = .ok (.slice (some ⟨g, r * 2, none⟩) d (cap - r)) w := by
    have := kcut_lh g 0 r cap r d (cap - r) r m rfl (by omega) (by omega) (by omega) (by omega)
    simpa using this
  have yd : (Y.drop (d * 2)).length = r * 2 := by simp; omega
  have hseg : Seg w A (Y.drop (d * 2)) := by
    by_cases h0 : r = 0
    · exact .inl (List.eq_nil_of_length_eq_zero (by omega))
    · rw [if_neg (by omega)] at hA
      rw [← hA]
      refine .inr ⟨g, d * 2, by simp [add_flat], hr.lt, fun j u hu => ?_⟩
      rw [hr.cell]
      rw [List.getElem?_drop] at hu
      rw [List.getElem?_append_left]
      · exact hu
      · rcases Nat.lt_or_ge (d * 2 + j) Y.length with h | h
        · exact h
        · rw [List.getElem?_eq_none h] at hu; cases hu
  clear hA
  obtain ⟨R1, e1, el1⟩ := splice_end [] (Y.drop (d * 2)) (Y ++ R) 0 rfl (by simp; omega)
  simp only [List.nil_append] at e1 el1
  have HSEG : Hid (Seg w A (Y.drop (d * 2))) := hseg
  have HR : Hid (Row w g 34 (Y ++ R)) := hr
  have HL : Hid ((Y.drop (d * 2)).length = r * ti.size) := by rw [hz1, yd]; rfl
  have H1 : Hid (∀ u ∈ Y.drop (d * 2), u.oneCell' = true) := fun u hu => h1 u (List.mem_of_mem_drop hu)
  have HF : Hid (0 + 0 * ti.size + (Y.drop (d * 2)).length ≤ (Y ++ R).length) := by rw [yd, hl]; exact (by omega : 0 + 0 * ti.size + r * 2 ≤ cap * 2)
  have HE : Hid (splice (Y ++ R) (0 + 0 * ti.size) (Y.drop (d * 2)) = Y.drop (d * 2) ++ R1) := by rw [Nat.zero_mul]; exact e1
  have HEL : Hid ((Y.drop (d * 2) ++ R1).length = cap * 2) := by rw [el1, hl]; rfl
  have i1 : (r : Int) ≤ m := by omega
  have HRC : Hid (0 + r ≤ cap) := (by omega : 0 + r ≤ cap)
  clear hseg e1 el1 yd
  go_enter Yba.func22, Yba.ntmps22
  go_wp2
  go_region_held3 (fun _ => True) (trivial) ((refine step_of_wp rfl (append_room_wp (.tmp 22) (.tmp 25) 32 rfl 34 ti Yba.underlying32 hti g 0 0 cap _ r _ (by rfl) (by rfl) (Y.drop (d * 2)) HL.out (by exact HSEG.out) H1.out HRC.out 34 _ (by exact HR.out) HF.out ?_); intro w1 hx1 hs1 hr1))
  rw [HE.out] at hr1
  obtain ⟨cs, hcs, hcl⟩ := run_clear_some (P := Yba.prog) (w := w1) 32 34 ti _ Yba.underlying32 hti hz0 (by rw [hz1]; rfl) (by intro v hv; simp [Value.cells] at hv; rcases hv with rfl | rfl <;> rfl) g (r * 2) d (cap - r) hd0 (Y.drop (d * 2) ++ R1) 34 hr1 (by rw [HEL.out, hz1]; omega)
  rw [hz1] at hcs
  have yd : (Y.drop (d * 2)).length = r * 2 := by have := HL.out; rw [hz1] at this; exact this
  obtain ⟨R2, e2, el2⟩ := splice_end (Y.drop (d * 2)) cs R1 (r * 2) yd (by rw [HEL.out, hcs]; omega)
  rw [e2] at hcl
  obtain ⟨w2, hw2⟩ : ∃ w2, w1.setRow g (Y.drop (d * 2) ++ (cs ++ R2)).toArray = w2 := ⟨_, rfl⟩
  have hx2 : Ext [g] w1 w2 := by rw [← hw2]; exact Ext.setRow _ _ _
  have hr2 : Row w2 g 34 (Y.drop (d * 2) ++ (cs ++ R2)) := by rw [← hw2]; exact setRow_heap _ _ _ _ _ _ hr1
  rw [hw2] at hcl
  have HR2 : Hid (Row w2 g 34 (Y.drop (d * 2) ++ (cs ++ R2))) := hr2
  clear hw2 hr1 hr2 e2 el2 hcs yd
  simp only [Nat.zero_add]
  go_wp2
  go_ret
  have hx1' : Ext [g] w w1 := ⟨hx1.os, hx1.tape, hx1.output, hx1.size, hx1.block⟩
  exact ⟨by rw [hr']; rfl, hx1'.trans hx2, _, HR2.out⟩

end Go.Proofs.Ybulkcure
