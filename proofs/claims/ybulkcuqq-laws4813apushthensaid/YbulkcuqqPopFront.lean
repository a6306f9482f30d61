/- popFront's contract. -/
import Derived.Test.YbulkcuqqCopyFront
namespace Go.Proofs.Ybulkcuqq
open Go.RowKit Mem

attribute [local go_sem ↓] Go.wp_at_zero Go.wp_at_succ

theorem i64_mask (x k : Nat) (hx : x < 1000000000000) (hk : k ≤ 20) : bits .and .i64 (x : Int) (((2 ^ k : Nat) : Int) - 1) = ((x % 2 ^ k : Nat) : Int) := by
  have hp : 0 < 2 ^ k := Nat.two_pow_pos k
  have hp2 : 2 ^ k ≤ 2 ^ 20 := Nat.pow_le_pow_right (by omega) hk
  have e : (((2 ^ k : Nat) : Int) - 1) = ((2 ^ k - 1 : Nat) : Int) := by omega
  rw [e]
  have h1 : (BitVec.ofInt 64 ((2 ^ k - 1 : Nat) : Int)).toNat = 2 ^ k - 1 := by
    rw [BitVec.toNat_ofInt]; omega
  have h2 : (BitVec.ofInt 64 (x : Int)).toNat = x := by
    rw [BitVec.toNat_ofInt]; omega
  have key : (BitVec.ofInt 64 (x : Int) &&& BitVec.ofInt 64 ((2 ^ k - 1 : Nat) : Int)).toNat = x % 2 ^ k := by
    rw [BitVec.toNat_and, h1, h2, Nat.and_two_pow_sub_one_eq_mod]
  show IntKind.i64.wrap ((BitVec.ofInt 64 (x : Int) &&& BitVec.ofInt 64 ((2 ^ k - 1 : Nat) : Int)).toNat : Nat) = _
  rw [key, IntKind.wrap_i64]
  have : x % 2 ^ k < 2 ^ k := Nat.mod_lt _ hp
  omega

/-- 'x[l:]' of a []*G -/
theorem cut_l (a : Option Addr) (len cap l : Nat) (L : Int) (hL : L = l) (h1 : l ≤ len) (w : World) :
    (Instr.slice 24 (.slice a len cap) (some (.int .i64 L)) none none).run Yba.prog w = .ok (.slice (if cap = l then a else a.map (fun x => x.add l)) (len - l) (cap - l)) w := by
  subst hL
  rw [run_slice_l w 24 a len cap Yba.ue24 _ _ (by omega) (by omega), Yba.size25]
  simp [sliced]

theorem Yba.zero25 : ∀ w, (zeroValue 25).run Yba.prog w = .ok (.pointer none) w := fun _ => by kernel_rfl

/-- the ring behind popFront: the front n are nil -/
def cleared (L : List Value) (h n : Nat) : List Value := splice (splice L h (List.replicate (min n (L.length - h)) (.pointer none))) 0 (List.replicate (n - (L.length - h)) (.pointer none))

set_option maxHeartbeats 1000000 in
theorem popFront_A (Bq Bb Bd p n h S c dc h' : Nat) (L D : List Value) (w : World)
    (hq : Row w Bq 38 [.slice (some ⟨Bb, 0, none⟩) S S, .int .i64 h, .int .i64 c]) (hb : Row w Bb 25 L) (hd : Row w Bd 25 D)
    (hL : L.length = S) (hS : S ≤ 1000000) (hh : h < S) (hnS : n ≤ S) (hn : n ≤ S - h) (hnc : n ≤ c) (hc : c ≤ S) (hdc : p + n ≤ dc) (hdc2 : dc ≤ 1000000) (hp : D.length = dc)
    (hand : bits .and .i64 ((h : Int) + n) ((S : Int) - 1) = h')
    (h1 : ∀ v ∈ L, v.oneCell' = true) (ne1 : Bq ≠ Bd) (ne2 : Bb ≠ Bd) (ne3 : Bq ≠ Bb) :
    Calls Yba.prog 7 #[.pointer (some ⟨Bq, 0, none⟩), .slice (some ⟨Bd, 0, none⟩) p dc, .int .i64 n] w fun e w' => e = .returned (.slice (some ⟨Bd, 0, none⟩) (p + n) dc) ∧ Turn [Bd, Bb, Bq] w w' ∧
      Row w' Bd 25 (splice D p (front L h n)) ∧ Row w' Bb 25 (cleared L h n) ∧ Row w' Bq 38 [.slice (some ⟨Bb, 0, none⟩) S S, .int .i64 h', .int .i64 ((c : Int) - n)] := by
  obtain ⟨A, hA⟩ : ∃ A, (if dc = p then some ⟨Bd, 0, none⟩ else (some (⟨Bd, 0, none⟩ : Addr)).map (fun x => x.add p)) = A := ⟨_, rfl⟩
  have hA0 : 0 < n → A = some ⟨Bd, p, none⟩ := by
    intro hz
    rw [← hA, if_neg (by omega)]
    simp [add_flat]
  have s0 : ∀ w, (Instr.slice 24 (.slice (some ⟨Bd, 0, none⟩) p dc) none (some (.int .i64 ((p : Int) + n))) none).run Yba.prog w = .ok (.slice (some ⟨Bd, 0, none⟩) (p + n) dc) w :=
    cut_h _ p dc (p + n) _ (by omega) (by omega)
  have s1 : ∀ w, (Instr.slice 24 (.slice (some ⟨Bd, 0, none⟩) (p + n) dc) (some (.int .i64 p)) none none).run Yba.prog w = .ok (.slice A n (dc - p)) w := by
    intro w
    rw [cut_l _ (p + n) dc p _ rfl (by omega), hA, Nat.add_sub_cancel_left]
  clear hA
  have i0 : (p : Int) + n ≤ 1000000 := by omega
  have i1 : (n : Int) ≤ (S : Int) - h := by omega
  have i3 : (S : Int) ≤ 1000000 := by omega
  have i4 : (n : Int) ≤ c := by omega
  have i4' : (c : Int) ≤ 1000000 := by omega
  have i5 : IntKind.i64.wrap ((h : Int) + n) = (h : Int) + n := IntWalk.i64_in _ (by omega)
  have i6 : IntKind.i64.wrap 0 = 0 := IntWalk.i64_in _ (by omega)
  have i7 : IntKind.i64.wrap ((S : Int) - 1) = (S : Int) - 1 := IntWalk.i64_in _ (by omega)
  have s2 : ∀ w, (Instr.slice 24 (.slice (some ⟨Bb, 0, none⟩) S S) (some (.int .i64 h)) (some (.int .i64 (h + n))) none).run Yba.prog w = .ok (.slice (some ⟨Bb, h, none⟩) n (S - h)) w := by
    have := cut_lh' Bb 0 S S h n (S - h) h (h + n) rfl rfl hh (by omega) rfl
    simpa using this
  have s3 : ∀ w, (Instr.slice 24 (.slice (some ⟨Bb, 0, none⟩) S S) none (some (.int .i64 0)) none).run Yba.prog w = .ok (.slice (some ⟨Bb, 0, none⟩) 0 S) w :=
    cut_h _ S S 0 0 rfl (by omega)
  go_enter Yba.func7, Yba.ntmps7
  go_wp2_with fail
  refine (copyFront_any Bq Bb Bd p n h S c (dc - p) A L D _ hq hb hd hL hS hh hnS (by omega) (by omega) hA0 h1 ne1 ne2).mono ?_
  rintro e w1 ⟨rfl, ht1, hd1⟩
  have hq1 := hq.turn ht1 (by simpa using ne1)
  have hb1 := hb.turn ht1 (by simpa using ne2)
  have c0 : w1.cell? ⟨Bq, 0, none⟩ = some (.slice (some ⟨Bb, 0, none⟩) S S) := hq1.cell 0
  have c1 : w1.cell? ⟨Bq, 1, none⟩ = some (.int .i64 h) := hq1.cell 1
  go_wp2
  go_quiet (fail)
  go_wp2
  have HB1 : Hid (Row w1 Bb 25 L) := hb1
  have HFIT : Hid (h + n ≤ L.length) := (by omega : h + n ≤ L.length)
  go_region_held3 (fun w' => w'.cell? ⟨Bq, 0, none⟩ = some (.slice (some ⟨Bb, 0, none⟩) S S) ∧ w'.cell? ⟨Bq, 1, none⟩ = some (.int .i64 h)) (go_keep)
    ((refine step_clear rfl (.tmp 48) 24 rfl 25 Yba.underlying24 (.pointer none) Yba.zero25 rfl rfl _ n _ (by rfl) Bb h L 25 (by exact HB1.out) (fun _ => rfl) HFIT.out ?_; intro w2 ht2 hb2; have d0 := ht2.cell (a := ⟨Bq, 0, none⟩) (by simpa using ne3); have d1 := ht2.cell (a := ⟨Bq, 1, none⟩) (by simpa using ne3)))
  have t2 : Turn [Bb] w1 w2 := ⟨ht2.os, ht2.tape, ht2.output, ht2.size, ht2.block⟩
  clear ht2
  have hq2 := hq1.turn t2 (by simpa using ne3)
  have e0 : w2.cell? ⟨Bq, 0, none⟩ = some (.slice (some ⟨Bb, 0, none⟩) S S) := hq2.cell 0
  have e1 : w2.cell? ⟨Bq, 1, none⟩ = some (.int .i64 h) := hq2.cell 1
  clear d0 d1
  have HB2 : Hid (Row w2 Bb 25 (splice L h (List.replicate n (.pointer none)))) := hb2
  clear hb2
  have hcl : ∀ ty, (Builtin.clear_ #[24] ty #[.slice (some ⟨Bb, 0, none⟩) 0 S]).run Yba.prog w2 = .ok (.tuple #[]) w2 := fun ty => run_clear_zero 24 25 ty Yba.underlying24 _ S
  go_wp2
  have f1 : w2.frozen? ⟨Bq, 1, none⟩ = false := hq2.frozen 1
  have f2 : w2.frozen? ⟨Bq, 2, none⟩ = false := hq2.frozen 2
  have e2 : w2.cell? ⟨Bq, 2, none⟩ = some (.int .i64 c) := hq2.cell 2
  go_region
  go_wp2
  go_ret
  have hcd : cleared L h n = splice L h (List.replicate n (.pointer none)) := by
    unfold cleared
    rw [show min n (L.length - h) = n from by omega, show n - (L.length - h) = 0 from by omega]
    exact Ring.splice_nil _ _
  have hd2 := hd1.turn t2 (by simpa using Ne.symm ne2)
  have tt : Turn [Bd, Bb, Bq] w w2 := (ht1.mono (by simp)).trans (t2.mono (by simp))
  refine ⟨rfl, ((tt.setCell (by simp) _).setCell (by simp) _).drew, ((hd2.setCell_other (Ne.symm ne1) _).setCell_other (Ne.symm ne1) _).drew, ?_, ?_⟩
  · rw [hcd]
    exact ((HB2.out.setCell_other (Ne.symm ne3) _).setCell_other (Ne.symm ne3) _).drew
  · exact ((hq2.setCell 1 _).setCell 2 _).drew

set_option maxHeartbeats 1000000 in
theorem popFront_B (Bq Bb Bd p n h S c dc h' : Nat) (L D : List Value) (w : World)
    (hq : Row w Bq 38 [.slice (some ⟨Bb, 0, none⟩) S S, .int .i64 h, .int .i64 c]) (hb : Row w Bb 25 L) (hd : Row w Bd 25 D)
    (hL : L.length = S) (hS : S ≤ 1000000) (hh : h < S) (hnS : n ≤ S) (hn : S - h < n) (hnc : n ≤ c) (hc : c ≤ S) (hdc : p + n ≤ dc) (hdc2 : dc ≤ 1000000) (hp : D.length = dc)
    (hand : bits .and .i64 ((h : Int) + n) ((S : Int) - 1) = h')
    (h1 : ∀ v ∈ L, v.oneCell' = true) (ne1 : Bq ≠ Bd) (ne2 : Bb ≠ Bd) (ne3 : Bq ≠ Bb) :
    Calls Yba.prog 7 #[.pointer (some ⟨Bq, 0, none⟩), .slice (some ⟨Bd, 0, none⟩) p dc, .int .i64 n] w fun e w' => e = .returned (.slice (some ⟨Bd, 0, none⟩) (p + n) dc) ∧ Turn [Bd, Bb, Bq] w w' ∧
      Row w' Bd 25 (splice D p (front L h n)) ∧ Row w' Bb 25 (cleared L h n) ∧ Row w' Bq 38 [.slice (some ⟨Bb, 0, none⟩) S S, .int .i64 h', .int .i64 ((c : Int) - n)] := by
  obtain ⟨A, hA⟩ : ∃ A, (if dc = p then some ⟨Bd, 0, none⟩ else (some (⟨Bd, 0, none⟩ : Addr)).map (fun x => x.add p)) = A := ⟨_, rfl⟩
  have hA0 : 0 < n → A = some ⟨Bd, p, none⟩ := by
    intro hz
    rw [← hA, if_neg (by omega)]
    simp [add_flat]
  have s0 : ∀ w, (Instr.slice 24 (.slice (some ⟨Bd, 0, none⟩) p dc) none (some (.int .i64 ((p : Int) + n))) none).run Yba.prog w = .ok (.slice (some ⟨Bd, 0, none⟩) (p + n) dc) w :=
    cut_h _ p dc (p + n) _ (by omega) (by omega)
  have s1 : ∀ w, (Instr.slice 24 (.slice (some ⟨Bd, 0, none⟩) (p + n) dc) (some (.int .i64 p)) none none).run Yba.prog w = .ok (.slice A n (dc - p)) w := by
    intro w
    rw [cut_l _ (p + n) dc p _ rfl (by omega), hA, Nat.add_sub_cancel_left]
  clear hA
  have i0 : (p : Int) + n ≤ 1000000 := by omega
  obtain ⟨f, hf⟩ : ∃ f : Nat, h + f = S := ⟨S - h, by omega⟩
  obtain ⟨r, hr⟩ : ∃ r : Nat, f + r = n := ⟨n - f, by omega⟩
  have i1 : (f : Int) < (n : Int) := by omega
  have i2 : (S : Int) - h = f := by omega
  have i8 : IntKind.i64.wrap ((h : Int) + f) = (h : Int) + f := IntWalk.i64_in _ (by omega)
  have i9 : (n : Int) - f = r := by omega
  have HF : Hid (h + f = S ∧ f + r = n) := ⟨hf, hr⟩
  have i3 : (S : Int) ≤ 1000000 := by omega
  have i4 : (n : Int) ≤ c := by omega
  have i4' : (c : Int) ≤ 1000000 := by omega
  have i5 : IntKind.i64.wrap ((h : Int) + n) = (h : Int) + n := IntWalk.i64_in _ (by omega)
  have i7 : IntKind.i64.wrap ((S : Int) - 1) = (S : Int) - 1 := IntWalk.i64_in _ (by omega)
  have s2 : ∀ w, (Instr.slice 24 (.slice (some ⟨Bb, 0, none⟩) S S) (some (.int .i64 h)) (some (.int .i64 (h + f))) none).run Yba.prog w = .ok (.slice (some ⟨Bb, h, none⟩) f f) w := by
    have := cut_lh' Bb 0 S S h f f h (h + f) rfl rfl hh (by omega) (by omega)
    simpa using this
  have s3 : ∀ w, (Instr.slice 24 (.slice (some ⟨Bb, 0, none⟩) S S) none (some (.int .i64 r)) none).run Yba.prog w = .ok (.slice (some ⟨Bb, 0, none⟩) r S) w :=
    cut_h _ S S r r rfl (by omega)
  clear hf hr
  go_enter Yba.func7, Yba.ntmps7
  go_wp2_with fail
  refine (copyFront_any Bq Bb Bd p n h S c (dc - p) A L D _ hq hb hd hL hS hh hnS (by omega) (by omega) hA0 h1 ne1 ne2).mono ?_
  rintro e w1 ⟨rfl, ht1, hd1⟩
  have hq1 := hq.turn ht1 (by simpa using ne1)
  have hb1 := hb.turn ht1 (by simpa using ne2)
  have c0 : w1.cell? ⟨Bq, 0, none⟩ = some (.slice (some ⟨Bb, 0, none⟩) S S) := hq1.cell 0
  have c1 : w1.cell? ⟨Bq, 1, none⟩ = some (.int .i64 h) := hq1.cell 1
  go_wp2
  go_quiet (fail)
  go_wp2
  have HB1 : Hid (Row w1 Bb 25 L) := hb1
  have HFIT : Hid (h + f ≤ L.length) := (by have := HF.out; omega : h + f ≤ L.length)
  go_region_held3 (fun w' => w'.cell? ⟨Bq, 0, none⟩ = some (.slice (some ⟨Bb, 0, none⟩) S S) ∧ w'.cell? ⟨Bq, 1, none⟩ = some (.int .i64 h)) (go_keep)
    ((refine step_clear rfl (.tmp 48) 24 rfl 25 Yba.underlying24 (.pointer none) Yba.zero25 rfl rfl _ f _ (by rfl) Bb h L 25 (by exact HB1.out) (fun _ => rfl) HFIT.out ?_; intro w2 ht2 hb2; have d0 := ht2.cell (a := ⟨Bq, 0, none⟩) (by simpa using ne3); have d1 := ht2.cell (a := ⟨Bq, 1, none⟩) (by simpa using ne3)))
  have t2 : Turn [Bb] w1 w2 := ⟨ht2.os, ht2.tape, ht2.output, ht2.size, ht2.block⟩
  clear ht2
  have hq2 := hq1.turn t2 (by simpa using ne3)
  have e0 : w2.cell? ⟨Bq, 0, none⟩ = some (.slice (some ⟨Bb, 0, none⟩) S S) := hq2.cell 0
  have e1 : w2.cell? ⟨Bq, 1, none⟩ = some (.int .i64 h) := hq2.cell 1
  clear d0 d1
  have HB2 : Hid (Row w2 Bb 25 (splice L h (List.replicate f (.pointer none)))) := hb2
  clear hb2
  have hfl : (splice L h (List.replicate f (.pointer none))).length = S := by
    rw [length_splice _ _ _ (by simpa using HFIT.out), hL]
  have hrun := fun ty => run_clear_row (P := Yba.prog) (w := w2) 24 25 ty (.pointer none) Yba.underlying24 Yba.zero25 rfl rfl Bb 0 r S (by have := HF.out; omega) _ 25 HB2.out (by rw [hfl]; have := HF.out; omega)
  obtain ⟨w3, hw3⟩ : ∃ w3, w2.setRow Bb (splice (splice L h (List.replicate f (.pointer none))) 0 (List.replicate r (.pointer none))).toArray = w3 := ⟨_, rfl⟩
  have t3 : Turn [Bb] w2 w3 := by rw [← hw3]; exact Turn.setRow _ _ _
  have hb3 : Row w3 Bb 25 (splice (splice L h (List.replicate f (.pointer none))) 0 (List.replicate r (.pointer none))) := by rw [← hw3]; exact setRow_heap _ _ _ _ _ _ HB2.out
  have HB3 : Hid (Row w3 Bb 25 (splice (splice L h (List.replicate f (.pointer none))) 0 (List.replicate r (.pointer none)))) := hb3
  have hcl : ∀ ty, (Builtin.clear_ #[24] ty #[.slice (some ⟨Bb, 0, none⟩) r S]).run Yba.prog w2 = .ok (.tuple #[]) w3 := by rw [← hw3]; exact hrun
  clear hrun hw3 hb3
  have hq3 := hq2.turn t3 (by simpa using ne3)
  have g0 : w3.cell? ⟨Bq, 0, none⟩ = some (.slice (some ⟨Bb, 0, none⟩) S S) := hq3.cell 0
  have g1 : w3.cell? ⟨Bq, 1, none⟩ = some (.int .i64 h) := hq3.cell 1
  have g2 : w3.cell? ⟨Bq, 2, none⟩ = some (.int .i64 c) := hq3.cell 2
  have f1 : w3.frozen? ⟨Bq, 1, none⟩ = false := hq3.frozen 1
  have f2 : w3.frozen? ⟨Bq, 2, none⟩ = false := hq3.frozen 2
  go_wp2
  go_region
  go_wp2
  go_ret
  have hcd : cleared L h n = splice (splice L h (List.replicate f (.pointer none))) 0 (List.replicate r (.pointer none)) := by
    have := HF.out
    unfold cleared
    rw [show min n (L.length - h) = f from by omega, show n - (L.length - h) = r from by omega]
  have hd2 := (hd1.turn t2 (by simpa using Ne.symm ne2)).turn t3 (by simpa using Ne.symm ne2)
  have tt : Turn [Bd, Bb, Bq] w w3 := ((ht1.mono (by simp)).trans (t2.mono (by simp))).trans (t3.mono (by simp))
  refine ⟨rfl, ((tt.setCell (by simp) _).setCell (by simp) _).drew, ((hd2.setCell_other (Ne.symm ne1) _).setCell_other (Ne.symm ne1) _).drew, ?_, ?_⟩
  · rw [hcd]
    exact ((HB3.out.setCell_other (Ne.symm ne3) _).setCell_other (Ne.symm ne3) _).drew
  · exact ((hq3.setCell 1 _).setCell 2 _).drew

/-- 'q.popFront(dst, n)' -/
theorem popFront_any (Bq Bb Bd p n h S c dc h' : Nat) (L D : List Value) (w : World)
    (hq : Row w Bq 38 [.slice (some ⟨Bb, 0, none⟩) S S, .int .i64 h, .int .i64 c]) (hb : Row w Bb 25 L) (hd : Row w Bd 25 D)
    (hL : L.length = S) (hS : S ≤ 1000000) (hh : h < S) (hnc : n ≤ c) (hc : c ≤ S) (hdc : p + n ≤ dc) (hdc2 : dc ≤ 1000000) (hp : D.length = dc)
    (hand : bits .and .i64 ((h : Int) + n) ((S : Int) - 1) = h')
    (h1 : ∀ v ∈ L, v.oneCell' = true) (ne1 : Bq ≠ Bd) (ne2 : Bb ≠ Bd) (ne3 : Bq ≠ Bb) :
    Calls Yba.prog 7 #[.pointer (some ⟨Bq, 0, none⟩), .slice (some ⟨Bd, 0, none⟩) p dc, .int .i64 n] w fun e w' => e = .returned (.slice (some ⟨Bd, 0, none⟩) (p + n) dc) ∧ Turn [Bd, Bb, Bq] w w' ∧
      Row w' Bd 25 (splice D p (front L h n)) ∧ Row w' Bb 25 (cleared L h n) ∧ Row w' Bq 38 [.slice (some ⟨Bb, 0, none⟩) S S, .int .i64 h', .int .i64 ((c : Int) - n)] := by
  by_cases hn : n ≤ S - h
  · exact popFront_A Bq Bb Bd p n h S c dc h' L D w hq hb hd hL hS hh (by omega) hn hnc hc hdc hdc2 hp hand h1 ne1 ne2 ne3
  · exact popFront_B Bq Bb Bd p n h S c dc h' L D w hq hb hd hL hS hh (by omega) (by omega) hnc hc hdc hdc2 hp hand h1 ne1 ne2 ne3

end Go.Proofs.Ybulkcuqq
