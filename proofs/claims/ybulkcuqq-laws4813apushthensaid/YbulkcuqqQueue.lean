/- The contracts of push, len, pop, newGlobalQueue. -/
import Derived.Test.YbulkcuqqFrontWalk
namespace Go.Proofs.Ybulkcuqq
open Go.RowKit Mem

attribute [local go_sem ↓] Go.wp_at_zero Go.wp_at_succ

theorem len_any (Bq Bb h S c : Nat) (w : World) (hq : Row w Bq 38 [.slice (some ⟨Bb, 0, none⟩) S S, .int .i64 h, .int .i64 c]) :
    Calls Yba.prog 10 #[.pointer (some ⟨Bq, 0, none⟩)] w fun e w' => e = .returned (.int .i64 c) ∧ w = w' := by
  have c2 : w.cell? ⟨Bq, 2, none⟩ = some (.int .i64 c) := hq.cell 2
  go_enter Yba.func10, Yba.ntmps10
  go_wp2
  go_ret
  exact ⟨rfl, rfl⟩

theorem pop_empty (Bq Bb h S : Nat) (w : World) (hq : Row w Bq 38 [.slice (some ⟨Bb, 0, none⟩) S S, .int .i64 h, .int .i64 0]) :
    Calls Yba.prog 11 #[.pointer (some ⟨Bq, 0, none⟩)] w fun e w' => e = .returned (.pointer none) ∧ w = w' := by
  have c2 : w.cell? ⟨Bq, 2, none⟩ = some (.int .i64 0) := hq.cell 2
  go_enter Yba.func11, Yba.ntmps11
  go_wp2
  go_ret
  exact ⟨rfl, rfl⟩

set_option maxHeartbeats 1000000 in
theorem push_any (Bq Bb h S c m : Nat) (a : Addr) (L : List Value) (w : World)
    (hq : Row w Bq 38 [.slice (some ⟨Bb, 0, none⟩) S S, .int .i64 h, .int .i64 c]) (hb : Row w Bb 25 L) (hL : L.length = S) (hS : S ≤ 1000000) (hh : h < S) (hc : c < S)
    (hand : bits .and .i64 ((h : Int) + c) ((S : Int) - 1) = m) (hm : m < S) (ne : Bq ≠ Bb) :
    Calls Yba.prog 9 #[.pointer (some ⟨Bq, 0, none⟩), .pointer (some a)] w fun e w' => e = .returned (.tuple #[]) ∧ Turn [Bb, Bq] w w' ∧ Row w' Bb 25 (L.set m (.pointer (some a))) ∧
      Row w' Bq 38 [.slice (some ⟨Bb, 0, none⟩) S S, .int .i64 h, .int .i64 ((c : Int) + 1)] := by
  have c0 : w.cell? ⟨Bq, 0, none⟩ = some (.slice (some ⟨Bb, 0, none⟩) S S) := hq.cell 0
  have c1 : w.cell? ⟨Bq, 1, none⟩ = some (.int .i64 h) := hq.cell 1
  have c2 : w.cell? ⟨Bq, 2, none⟩ = some (.int .i64 c) := hq.cell 2
  have f2 : w.frozen? ⟨Bq, 2, none⟩ = false := hq.frozen 2
  obtain ⟨old, cm⟩ := row_some hb (j := m) (by omega)
  have fm : w.frozen? ⟨Bb, m, none⟩ = false := hb.frozen m
  have hcS : ((c : Int) == (S : Int)) = false := by simp; omega
  have i1 : (m : Int) < (S : Int) := by omega
  have i2 : (h : Int) + c ≤ 2000000 := by omega
  have i3 : (S : Int) ≤ 1000000 := by omega
  have i4 : (c : Int) < S := by omega
  have i5 : IntKind.i64.wrap ((h : Int) + c) = (h : Int) + c := IntWalk.i64_in _ (by omega)
  have i6 : IntKind.i64.wrap ((S : Int) - 1) = (S : Int) - 1 := IntWalk.i64_in _ (by omega)
  have ne' : Bb ≠ Bq := Ne.symm ne
  go_enter Yba.func9, Yba.ntmps9
  go_wp2
  go_quiet (fail)
  go_wp2
  go_region_held3 (fun w' => w'.cell? ⟨Bq, 0, none⟩ = some (.slice (some ⟨Bb, 0, none⟩) S S) ∧ w'.cell? ⟨Bq, 1, none⟩ = some (.int .i64 h) ∧ w'.cell? ⟨Bq, 2, none⟩ = some (.int .i64 c)) (go_keep) (fail)
  go_wp2
  go_end0
  exact ⟨rfl, (((Turn.refl _ w).drewN _).setCell (by simp) _).setCell (by simp) _, ((hb.drewN _).setCell m _).setCell_other ne' _, ((hq.drewN _).setCell_other ne _).setCell 2 _⟩

set_option maxHeartbeats 1000000 in
theorem pop_some (Bq Bb h S c h' : Nat) (v : Value) (L : List Value) (w : World)
    (hq : Row w Bq 38 [.slice (some ⟨Bb, 0, none⟩) S S, .int .i64 h, .int .i64 c]) (hb : Row w Bb 25 L) (hS : S ≤ 1000000) (hh : h < S) (hc : 0 < c) (hcS : c ≤ S)
    (hv : L[h]? = some v) (hand : bits .and .i64 ((h : Int) + 1) ((S : Int) - 1) = h') (ne : Bq ≠ Bb) :
    Calls Yba.prog 11 #[.pointer (some ⟨Bq, 0, none⟩)] w fun e w' => e = .returned v ∧ Turn [Bb, Bq] w w' ∧ Row w' Bb 25 (L.set h (.pointer none)) ∧
      Row w' Bq 38 [.slice (some ⟨Bb, 0, none⟩) S S, .int .i64 h', .int .i64 ((c : Int) - 1)] := by
  have c0 : w.cell? ⟨Bq, 0, none⟩ = some (.slice (some ⟨Bb, 0, none⟩) S S) := hq.cell 0
  have c1 : w.cell? ⟨Bq, 1, none⟩ = some (.int .i64 h) := hq.cell 1
  have c2 : w.cell? ⟨Bq, 2, none⟩ = some (.int .i64 c) := hq.cell 2
  have cv : w.cell? ⟨Bb, h, none⟩ = some v := (hb.cell h).trans hv
  have f1 : w.frozen? ⟨Bq, 1, none⟩ = false := hq.frozen 1
  have f2 : w.frozen? ⟨Bq, 2, none⟩ = false := hq.frozen 2
  have fh : w.frozen? ⟨Bb, h, none⟩ = false := hb.frozen h
  have hc0 : ((c : Int) == 0) = false := by simp; omega
  have i1 : (h : Int) < (S : Int) := by omega
  have i3 : (S : Int) ≤ 1000000 := by omega
  have i4 : (0 : Int) < c := by omega
  have i4' : (c : Int) ≤ S := by omega
  have ne' : Bb ≠ Bq := Ne.symm ne
  clear hv
  go_enter Yba.func11, Yba.ntmps11
  go_wp2
  go_quiet (fail)
  go_wp2
  go_region_held3 (fun w' => w'.cell? ⟨Bq, 0, none⟩ = some (.slice (some ⟨Bb, 0, none⟩) S S) ∧ w'.cell? ⟨Bq, 1, none⟩ = some (.int .i64 h)) (go_keep) (fail)
  go_wp2
  go_region
  go_wp2
  go_ret
  exact ⟨rfl, ((((((Turn.refl _ w).drewN _).setCell (by simp) _).setCell (by simp) _).setCell (by simp) _).drew), (((hb.drewN _).setCell h _).setCell_other ne' _).setCell_other ne' _, ((((hq.drewN _).setCell_other ne _).setCell 1 _).setCell 2 _)⟩

set_option maxHeartbeats 400000 in
theorem new_any (w : World) :
    Calls Yba.prog 8 #[] w fun e w' => ∃ Z : List Value, Z = List.replicate 1024 (.pointer none) ∧ e = .returned (.agg #[.slice (some ⟨w.heap.size + 1, 0, none⟩) 1024 1024, .int .i64 0, .int .i64 0]) ∧
      Below w.heap.size w w' ∧ w'.heap.size = w.heap.size + 2 ∧ Row w' (w.heap.size + 1) 25 Z := by
  have hmk : ∀ w, (Instr.makeSlice 24 (.int .i64 1024) (.int .i64 1024)).run Yba.prog w = .ok (.slice (some ⟨w.heap.size, 0, none⟩) 1024 1024) (w.alloc (.cells (List.replicate 1024 (Value.pointer none)).toArray 25)) := make_ps 1024 1024 (by omega) (by omega)
  obtain ⟨Z, hZ⟩ : ∃ Z, List.replicate 1024 (Value.pointer none) = Z := ⟨_, rfl⟩
  rw [hZ] at hmk
  have HZ : Hid (List.replicate 1024 (Value.pointer none) = Z) := hZ
  clear hZ
  go_enter Yba.func8, Yba.ntmps8
  go_wp2
  refine bodyPost_ret (v := .agg #[.slice (some ⟨w.heap.size + 1, 0, none⟩) 1024 1024, .int .i64 0, .int .i64 0]) (by simp [results, Yba.results8, go_sem]) rfl ⟨Z, HZ.out.symm, rfl, ?_, ?_, ?_⟩
  · exact ((Below.refl _ _).alloc (Nat.le_refl _) _).alloc (by rw [size_alloc]; omega) _
  · rw [size_alloc, size_alloc]
  · exact row_new (by rw [size_alloc]) _ _

end Go.Proofs.Ybulkcuqq
