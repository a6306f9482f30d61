/- copyFront's contract. -/
import Derived.Test.YbulkcuqqRows
import Derived.Test.YbulkcuqqMem
import Derived.Test.YbulkcuqqRing
import Derived.Deep.RegionHeld3
import Derived.Deep.DrawnRows
import Derived.Deep.QuietTactic
import Derived.BigQuiet
namespace Go.Proofs.Ybulkcuqq
open Go.RowKit Mem

attribute [local go_sem ↓] Go.wp_at_zero Go.wp_at_succ

theorem Yba.info25 : (Yba.prog.info? 25).map (·.size) = some 1 := by kernel_rfl
theorem Yba.size25 : ∀ w, (sizeOf (Yba.prog.elem 24)).run Yba.prog w = .ok 1 w := fun _ => by kernel_rfl
theorem Yba.ue24 : Yba.prog.underlying 24 = some (.slice (Yba.prog.elem 24)) := by kernel_rfl
/-- 'x[l:h]' of a []*G -/
theorem cut_lh (a : Option Addr) (len cap l h : Nat) (L H : Int) (hL : L = l) (hH : H = h) (h1 : l ≤ h) (h2 : h ≤ cap) (w : World) :
    (Instr.slice 24 (.slice a len cap) (some (.int .i64 L)) (some (.int .i64 H)) none).run Yba.prog w = .ok (.slice (if cap = l then a else a.map (fun x => x.add l)) (h - l) (cap - l)) w := by
  subst hL hH
  rw [run_slice_lh w 24 a len cap Yba.ue24 _ _ _ _ (by omega) (by omega) (by omega), Yba.size25]
  simp [sliced]

theorem cut_lh' (b o len cap l n c : Nat) (L H : Int) (hL : L = l) (hH : H = l + n) (h1 : l < cap) (h2 : l + n ≤ cap) (hc : c = cap - l) (w : World) :
    (Instr.slice 24 (.slice (some ⟨b, o, none⟩) len cap) (some (.int .i64 L)) (some (.int .i64 H)) none).run Yba.prog w = .ok (.slice (some ⟨b, o + l, none⟩) n c) w := by
  rw [cut_lh _ len cap l (l + n) _ _ hL (by omega) (by omega) (by omega)]
  subst hc
  have e : ¬ cap = l := by omega
  have e2 : l + n - l = n := by omega
  rw [if_neg e, e2]
  simp [Addr.add]

/-- 'x[:h]' of a []*G -/
theorem cut_h (a : Option Addr) (len cap h : Nat) (H : Int) (hH : H = h) (h2 : h ≤ cap) (w : World) :
    (Instr.slice 24 (.slice a len cap) none (some (.int .i64 H)) none).run Yba.prog w = .ok (.slice a h cap) w := by
  subst hH
  rw [run_slice_h w 24 a len cap Yba.ue24 _ _ (by omega) (by omega), Yba.size25]
  simp only [sliced, Result.andThen, Int.toNat_natCast, Nat.sub_zero]
  cases a <;> simp [Addr.add]

theorem add_flat (b o j : Nat) : (⟨b, o, none⟩ : Addr).add j = ⟨b, o + j, none⟩ := by simp [Addr.add]

set_option maxHeartbeats 400000 in
theorem copyFront_A (Bq Bb Bd p n h S c dc : Nat) (dp : Option Addr) (L D : List Value) (w : World)
    (hq : Row w Bq 38 [.slice (some ⟨Bb, 0, none⟩) S S, .int .i64 h, .int .i64 c]) (hb : Row w Bb 25 L) (hd : Row w Bd 25 D)
    (hL : L.length = S) (hS : S ≤ 1000000) (hh : h < S) (hn : n ≤ S - h) (hdc : n ≤ dc) (hp : p + n ≤ D.length) (hdp : 0 < n → dp = some ⟨Bd, p, none⟩)
    (h1 : ∀ v ∈ L, v.oneCell' = true) (ne1 : Bq ≠ Bd) :
    Calls Yba.prog 15 #[.pointer (some ⟨Bq, 0, none⟩), .slice dp n dc, .int .i64 n] w fun e w' => e = .returned (.tuple #[]) ∧ Turn [Bd] w w' ∧ Row w' Bd 25 (splice D p (front L h n)) := by
  have c0 : w.cell? ⟨Bq, 0, none⟩ = some (.slice (some ⟨Bb, 0, none⟩) S S) := hq.cell 0
  have c1 : w.cell? ⟨Bq, 1, none⟩ = some (.int .i64 h) := hq.cell 1
  have i1 : (n : Int) ≤ (S : Int) - h := by omega
  have i3 : (S : Int) ≤ 1000000 := by omega
  have i5 : IntKind.i64.wrap ((h : Int) + n) = (h : Int) + n := IntWalk.i64_in _ (by omega)
  have i6 : IntKind.i64.wrap 0 = 0 := IntWalk.i64_in _ (by omega)
  have s1 : ∀ w, (Instr.slice 24 (.slice (some ⟨Bb, 0, none⟩) S S) (some (.int .i64 h)) (some (.int .i64 (h + n))) none).run Yba.prog w = .ok (.slice (some ⟨Bb, h, none⟩) n (S - h)) w := by
    have := cut_lh' Bb 0 S S h n (S - h) h (h + n) rfl rfl hh (by omega) rfl
    simpa using this
  obtain ⟨A, hA⟩ : ∃ A, (if dc = n then dp else dp.map (fun x => x.add n)) = A := ⟨_, rfl⟩
  have s2 : ∀ w, (Instr.slice 24 (.slice dp n dc) (some (.int .i64 n)) (some (.int .i64 n)) none).run Yba.prog w = .ok (.slice A 0 (dc - n)) w := by
    intro w
    rw [cut_lh dp n dc n n _ _ rfl rfl (by omega) (by omega), hA, Nat.sub_self]
  have s3 : ∀ w, (Instr.slice 24 (.slice (some ⟨Bb, 0, none⟩) S S) none (some (.int .i64 0)) none).run Yba.prog w = .ok (.slice (some ⟨Bb, 0, none⟩) 0 S) w := 
    cut_h _ S S 0 0 rfl (by omega)
  clear hA
  have hf := Ring.front_short L h n (by omega)
  have hfl : (front L h n).length = n := Ring.front_length L h n (by omega)
  have hf1 : ∀ v ∈ front L h n, v.oneCell' = true := fun v hv => h1 v (Ring.front_mem hv)
  have hsrc : ∀ j v, (front L h n)[j]? = some v → w.cell? ((⟨Bb, h, none⟩ : Addr).add j) = some v := by
    intro j v hv
    rw [add_flat, hb.cell]
    rw [hf, List.getElem?_take] at hv
    split at hv
    · rwa [List.getElem?_drop] at hv
    · cases hv
  obtain ⟨F, hF⟩ : ∃ F, front L h n = F := ⟨_, rfl⟩
  rw [hF] at hfl hf1 hsrc ⊢
  clear hf hF
  have HF : Hid (F.length = n) := hfl
  have Hs : Hid (∀ j v, F[j]? = some v → w.cell? ((⟨Bb, h, none⟩ : Addr).add j) = some v) := hsrc
  have H1 : Hid (∀ v ∈ F, v.oneCell' = true) := hf1
  clear hfl hsrc hf1 h1
  go_enter Yba.func15, Yba.ntmps15
  go_wp2
  go_quiet (fail)
  go_wp2
  go_region_held3 (fun w' => w'.cell? ⟨Bq, 0, none⟩ = some (.slice (some ⟨Bb, 0, none⟩) S S) ∧ w'.cell? ⟨Bq, 1, none⟩ = some (.int .i64 h)) (go_keep)
    ((refine step_copy rfl (.tmp 19) (.tmp 34) 24 24 rfl 25 Yba.underlying24 Yba.info25 _ _ n dc n (S - h) (by rfl) (by rfl) Bd p D 25 (by exact hd) F (by simp [HF.out]) (fun hz => ⟨hdp (by rw [HF.out] at hz; exact hz), _, rfl, by exact Hs.out⟩) (by rw [HF.out]; exact hp) H1.out ?_; intro w1 ht1 hr1; have d0 := ht1.cell (a := ⟨Bq, 0, none⟩) (by simpa using ne1); have d1 := ht1.cell (a := ⟨Bq, 1, none⟩) (by simpa using ne1)))
  go_wp2
  go_region_held3 (fun w' => w'.cell? ⟨Bq, 0, none⟩ = some (.slice (some ⟨Bb, 0, none⟩) S S)) (go_keep)
    ((refine step_copy rfl (.tmp 39) (.tmp 47) 24 24 rfl 25 Yba.underlying24 Yba.info25 _ _ 0 (dc - n) 0 S (by rfl) (by rfl) Bd p (splice D p F) 25 (by exact hr1) [] rfl (fun hz => absurd hz (by simp)) (by simp; rw [length_splice _ _ _ (by rw [HF.out]; exact hp)]; omega) (by simp) ?_; intro w2 ht2 hr2; have f0 := ht2.cell (a := ⟨Bq, 0, none⟩) (by simpa using ne1)))
  go_wp2
  go_end0
  have t1 : Turn [Bd] w w1 := ⟨ht1.os, ht1.tape, ht1.output, ht1.size, ht1.block⟩
  have t2 : Turn [Bd] w1 w2 := ⟨ht2.os, ht2.tape, ht2.output, ht2.size, ht2.block⟩
  rw [Ring.splice_nil] at hr2
  exact ⟨rfl, t1.trans t2, hr2⟩

set_option maxHeartbeats 400000 in
theorem copyFront_B (Bq Bb Bd p n h S c dc : Nat) (L D : List Value) (w : World)
    (hq : Row w Bq 38 [.slice (some ⟨Bb, 0, none⟩) S S, .int .i64 h, .int .i64 c]) (hb : Row w Bb 25 L) (hd : Row w Bd 25 D)
    (hL : L.length = S) (hS : S ≤ 1000000) (hh : h < S) (hn : S - h < n) (hnS : n ≤ S) (hdc : n ≤ dc) (hp : p + n ≤ D.length)
    (h1 : ∀ v ∈ L, v.oneCell' = true) (ne1 : Bq ≠ Bd) (ne2 : Bb ≠ Bd) :
    Calls Yba.prog 15 #[.pointer (some ⟨Bq, 0, none⟩), .slice (some ⟨Bd, p, none⟩) n dc, .int .i64 n] w fun e w' => e = .returned (.tuple #[]) ∧ Turn [Bd] w w' ∧ Row w' Bd 25 (splice D p (front L h n)) := by
  have c0 : w.cell? ⟨Bq, 0, none⟩ = some (.slice (some ⟨Bb, 0, none⟩) S S) := hq.cell 0
  have c1 : w.cell? ⟨Bq, 1, none⟩ = some (.int .i64 h) := hq.cell 1
  obtain ⟨f, hf⟩ : ∃ f : Nat, h + f = S := ⟨S - h, by omega⟩
  obtain ⟨r, hr⟩ : ∃ r : Nat, f + r = n := ⟨n - f, by omega⟩
  have i1 : (f : Int) < (n : Int) := by omega
  have i2 : (n : Int) ≤ S := by omega
  have i3 : (S : Int) ≤ 1000000 := by omega
  have i4 : (S : Int) - h = f := by omega
  have i5 : IntKind.i64.wrap ((h : Int) + f) = (h : Int) + f := IntWalk.i64_in _ (by omega)
  have i6 : IntKind.i64.wrap ((n : Int) - f) = r := by rw [IntWalk.i64_in _ (by omega)]; omega
  have s1 : ∀ w, (Instr.slice 24 (.slice (some ⟨Bb, 0, none⟩) S S) (some (.int .i64 h)) (some (.int .i64 (h + f))) none).run Yba.prog w = .ok (.slice (some ⟨Bb, h, none⟩) f f) w := by
    have := cut_lh' Bb 0 S S h f f h (h + f) rfl rfl hh (by omega) (by omega)
    simpa using this
  have s2 : ∀ w, (Instr.slice 24 (.slice (some ⟨Bd, p, none⟩) n dc) (some (.int .i64 f)) (some (.int .i64 n)) none).run Yba.prog w = .ok (.slice (some ⟨Bd, p + f, none⟩) r (dc - f)) w :=
    cut_lh' Bd p n dc f r (dc - f) f n rfl (by omega) (by omega) (by omega) rfl
  have s3 : ∀ w, (Instr.slice 24 (.slice (some ⟨Bb, 0, none⟩) S S) none (some (.int .i64 r)) none).run Yba.prog w = .ok (.slice (some ⟨Bb, 0, none⟩) r S) w :=
    cut_h _ S S r r rfl (by omega)
  have hfr := Ring.front_long L h n (by omega)
  have xl : (L.drop h).length = f := by simp; omega
  have yl : (L.take r).length = r := by simp; omega
  rw [show n - (L.length - h) = r from by omega] at hfr
  have x1 : ∀ v ∈ L.drop h, v.oneCell' = true := fun v hv => h1 v (List.mem_of_mem_drop hv)
  have y1 : ∀ v ∈ L.take r, v.oneCell' = true := fun v hv => h1 v (List.mem_of_mem_take hv)
  have xs : ∀ j v, (L.drop h)[j]? = some v → w.cell? ((⟨Bb, h, none⟩ : Addr).add j) = some v := by
    intro j v hv
    rw [add_flat, hb.cell]
    rwa [List.getElem?_drop] at hv
  have ys : ∀ (w' : World), Row w' Bb 25 L → ∀ j v, (L.take r)[j]? = some v → w'.cell? ((⟨Bb, 0, none⟩ : Addr).add j) = some v := by
    intro w' hb' j v hv
    rw [add_flat, hb'.cell, Nat.zero_add]
    rw [List.getElem?_take] at hv
    split at hv
    · exact hv
    · cases hv
  obtain ⟨X, hX⟩ : ∃ X, L.drop h = X := ⟨_, rfl⟩
  obtain ⟨Y, hY⟩ : ∃ Y, L.take r = Y := ⟨_, rfl⟩
  rw [hX] at xl x1 xs hfr
  rw [hY] at yl y1 ys hfr
  rw [hfr]
  have hsp := Ring.splice_splice D X Y p (by omega)
  have hle : (splice D p X).length = D.length := length_splice D p X (by omega)
  rw [xl] at hsp
  clear hX hY hfr
  have XL : Hid (X.length = f) := xl
  have YL : Hid (Y.length = r) := yl
  have X1 : Hid (∀ v ∈ X, v.oneCell' = true) := x1
  have Y1 : Hid (∀ v ∈ Y, v.oneCell' = true) := y1
  have XS : Hid (∀ j v, X[j]? = some v → w.cell? ((⟨Bb, h, none⟩ : Addr).add j) = some v) := xs
  have YS : Hid (∀ (w' : World), Row w' Bb 25 L → ∀ j v, Y[j]? = some v → w'.cell? ((⟨Bb, 0, none⟩ : Addr).add j) = some v) := ys
  have HSP : Hid (splice (splice D p X) (p + f) Y = splice D p (X ++ Y)) := hsp
  have HLE : Hid ((splice D p X).length = D.length) := hle
  have HF1 : Hid (p + f ≤ D.length) := (by omega : p + f ≤ D.length)
  have HF2 : Hid (p + f + r ≤ D.length) := (by omega : p + f + r ≤ D.length)
  clear xl yl x1 y1 xs ys hsp hle h1 hf hr hL hh hn hnS hdc hp hS
  go_enter Yba.func15, Yba.ntmps15
  go_wp2
  go_quiet (fail)
  go_wp2
  go_region_held3 (fun w' => w'.cell? ⟨Bq, 0, none⟩ = some (.slice (some ⟨Bb, 0, none⟩) S S) ∧ w'.cell? ⟨Bq, 1, none⟩ = some (.int .i64 h)) (go_keep)
    ((refine step_copy rfl (.tmp 19) (.tmp 34) 24 24 rfl 25 Yba.underlying24 Yba.info25 _ _ n dc f f (by rfl) (by rfl) Bd p D 25 (by exact hd) X (by rw [XL.out]; exact (Nat.min_eq_left (by omega)).symm) (fun hz => ⟨rfl, _, rfl, by exact XS.out⟩) (by rw [XL.out]; exact HF1.out) X1.out ?_; intro w1 ht1 hr1; have d0 := ht1.cell (a := ⟨Bq, 0, none⟩) (by simpa using ne1); have d1 := ht1.cell (a := ⟨Bq, 1, none⟩) (by simpa using ne1)))
  have hb1 : Row w1 Bb 25 L := Row.turn (w := w) hb ⟨ht1.os, ht1.tape, ht1.output, ht1.size, ht1.block⟩ (by simpa using ne2)
  go_wp2
  go_region_held3 (fun w' => w'.cell? ⟨Bq, 0, none⟩ = some (.slice (some ⟨Bb, 0, none⟩) S S)) (go_keep)
    ((refine step_copy rfl (.tmp 39) (.tmp 47) 24 24 rfl 25 Yba.underlying24 Yba.info25 _ _ r (dc - f) r S (by rfl) (by rfl) Bd (p + f) (splice D p X) 25 (by exact hr1) Y (by rw [YL.out]; exact (Nat.min_self _).symm) (fun hz => ⟨rfl, _, rfl, by exact YS.out _ hb1⟩) (by rw [YL.out, HLE.out]; exact HF2.out) Y1.out ?_; intro w2 ht2 hr2; have f0 := ht2.cell (a := ⟨Bq, 0, none⟩) (by simpa using ne1)))
  go_wp2
  go_end0
  have t1 : Turn [Bd] w w1 := ⟨ht1.os, ht1.tape, ht1.output, ht1.size, ht1.block⟩
  have t2 : Turn [Bd] w1 w2 := ⟨ht2.os, ht2.tape, ht2.output, ht2.size, ht2.block⟩
  rw [HSP.out] at hr2
  exact ⟨rfl, t1.trans t2, hr2⟩

/-- 'q.copyFront(dst, n)': dst's first n cells become the front n of the ring; nothing else turns. -/
theorem copyFront_any (Bq Bb Bd p n h S c dc : Nat) (dp : Option Addr) (L D : List Value) (w : World)
    (hq : Row w Bq 38 [.slice (some ⟨Bb, 0, none⟩) S S, .int .i64 h, .int .i64 c]) (hb : Row w Bb 25 L) (hd : Row w Bd 25 D)
    (hL : L.length = S) (hS : S ≤ 1000000) (hh : h < S) (hnS : n ≤ S) (hdc : n ≤ dc) (hp : p + n ≤ D.length) (hdp : 0 < n → dp = some ⟨Bd, p, none⟩)
    (h1 : ∀ v ∈ L, v.oneCell' = true) (ne1 : Bq ≠ Bd) (ne2 : Bb ≠ Bd) :
    Calls Yba.prog 15 #[.pointer (some ⟨Bq, 0, none⟩), .slice dp n dc, .int .i64 n] w fun e w' => e = .returned (.tuple #[]) ∧ Turn [Bd] w w' ∧ Row w' Bd 25 (splice D p (front L h n)) := by
  by_cases hn : n ≤ S - h
  · exact copyFront_A Bq Bb Bd p n h S c dc dp L D w hq hb hd hL hS hh hn hdc hp hdp h1 ne1
  · rw [hdp (by omega)]
    exact copyFront_B Bq Bb Bd p n h S c dc L D w hq hb hd hL hS hh (by omega) hnS hdc hp h1 ne1 ne2

end Go.Proofs.Ybulkcuqq
