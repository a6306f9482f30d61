/- appendMarker: its contract. -/
import Derived.Test.YbulkcvecRows
import Derived.Test.YbulkcvecMem
import Derived.Deep.RegionHeld3
import Derived.Deep.DrawnRows
import Derived.Deep.QuietTactic
import Derived.BigQuiet
namespace Go.Proofs.Ybulkcvec
open Go.RowKit Mem

def Halt (p : Prop) : Prop := p
theorem Halt.out {p : Prop} (h : Halt p) : p := h

theorem Yba.info5 : (Yba.prog.info? 5).map (fun i => (i.zero, i.size, i.bytes)) = some (some (.int .u8 0), 1, 1) := by kernel_rfl

/-- k times the byte 64 -/
def ats (k : Nat) : List Value := List.replicate k (.int .u8 64)
theorem ats_len (k : Nat) : (ats k).length = k := List.length_replicate
theorem ats_succ (k : Nat) : ats (k + 1) = ats k ++ [.int .u8 64] := List.replicate_succ'

theorem splice_end (L Y : List Value) (R : List Value) (n : Nat) (hL : L.length = n) (h : n + Y.length ≤ (L ++ R).length) : ∃ R', splice (L ++ R) n Y = L ++ (Y ++ R') ∧ (L ++ (Y ++ R')).length = (L ++ R).length := by
  subst hL
  refine ⟨(L ++ R).drop (L.length + Y.length), ?_, ?_⟩
  · unfold splice
    rw [List.take_left']
    rfl
  · simp at h ⊢
    omega

/-- behind k rounds: the slice's row, and the row that came in -/
structure St (w : World) (B g0 : Nat) (X : List Value) (k g cap : Nat) (wr : World) : Prop where
  row : ∃ R, Row wr g 5 ((X ++ ats k) ++ R) ∧ ((X ++ ats k) ++ R).length = cap
  old : ∃ R, Row wr g0 5 (X ++ R)
  lo : B ≤ g
  b : Below B w wr
  sz : B ≤ wr.heap.size

set_option maxHeartbeats 400000 in
theorem marker_any (B g0 n0 cap : Nat) (n : Int) (X R : List Value) (w0 w : World) (hX : X.length = n0) (hr : Row w g0 5 (X ++ R)) (hl : (X ++ R).length = cap) (hB : B ≤ g0) (hb : Below B w0 w) (hn0 : n0 ≤ 10000) (hn : n ≤ 10000) :
    Calls Yba.prog 4 #[.slice (some ⟨g0, 0, none⟩) n0 cap, .int .i64 n] w fun e w' => ∃ g cap', e = .returned (.slice (some ⟨g, 0, none⟩) (n0 + n.toNat) cap') ∧ St w0 B g0 X n.toNat g cap' w' := by
  obtain ⟨ti, hti, hz0, hz1, hz2⟩ := info_parts Yba.info5
  have H0 : Hid (St w0 B g0 X 0 g0 cap w) := ⟨⟨R, by simpa [ats] using hr, by simpa [ats] using hl⟩, ⟨R, hr⟩, hB, hb, by have := hr.lt; omega⟩
  clear hr hl hb
  go_enter Yba.func4, Yba.ntmps4
  go_wp2
  go_loopw [0, 6] (fun s i wr => ∃ k g cap' : Nat, (k : Int) ≤ n.toNat ∧ s = .slice (some ⟨g, 0, none⟩) (n0 + k) cap' ∧ i = .int .i64 k ∧ Hid (St w0 B g0 X k g cap' wr)) (fun _ i _ => n.toNat - (intOf i).toNat)
  case atStart => exact ⟨0, g0, cap, by omega, rfl, rfl, H0⟩
  case round =>
    clear H0
    obtain ⟨k, g, cap', hk, rfl, rfl, hS⟩ := hrel
    by_cases hlt : (k : Int) < n
    · obtain ⟨R1, hR1, hl1⟩ := hS.out.row
      have hxl : (X ++ ats k).length = n0 + k := by rw [List.length_append, hX, ats_len]
      by_cases hroom : n0 + k + 1 ≤ cap'
      · go_wp2_with (at_builtin; refine Halt.out ?_)
        unfold Halt
        refine wpList_append_room rfl (.tmp 8) (.tmp 9) 22 rfl 5 ti Yba.underlying22 hti g 0 (n0 + k) cap' _ 1 1 rfl rfl [.int .u8 64] (by simp [hz1]) (Seg.ofRow (row_new rfl 5 [.int .u8 64]) 0 _ (by simp)) (by simp [Value.oneCell']) (by omega) 5 _ (hR1.alloc _) (by rw [hl1, hz1]; simp; omega) ?_
        intro w1 hx1 hs1 hr1
        rw [hz1, Nat.mul_one, Nat.zero_add] at hr1
        obtain ⟨R2, e2, el2⟩ := splice_end (X ++ ats k) [.int .u8 64] R1 (n0 + k) hxl (by rw [hl1]; simp; omega)
        rw [e2] at hr1
        have e3 : X ++ ats k ++ ([Value.int .u8 64] ++ R2) = (X ++ ats (k + 1)) ++ R2 := by rw [ats_succ]; simp
        rw [e3] at hr1 el2
        have HS' : Hid (St w0 B g0 X (k + 1) g cap' w1) := by
          refine ⟨⟨R2, hr1, by rw [el2, hl1]⟩, ?_, hS.out.lo, hx1.below (hS.out.b.alloc (by have := hS.out.sz; omega) _) (by rw [size_alloc]; have := hS.out.sz; omega) (by simp; exact hS.out.lo), by have := hS.out.sz; have := hx1.size; rw [size_alloc] at this; omega⟩
          by_cases eg : g0 = g
          · subst eg
            exact ⟨ats (k + 1) ++ R2, by rw [← List.append_assoc]; exact hr1⟩
          · obtain ⟨R0, hR0⟩ := hS.out.old
            exact ⟨R0, (hR0.alloc _).ext hx1 (by simpa using eg)⟩
        clear hr1 hx1 hs1 e2 el2 e3
        go_wp2
        go_roundw
        case rel => exact ⟨k + 1, g, cap', by omega, by simp [Nat.add_assoc], by go_num, HS'⟩
        case measure => simp [intOf]; omega
      · go_wp2_with (at_builtin; refine Halt.out ?_)
        unfold Halt
        refine wpList_append_grow rfl (.tmp 8) (.tmp 9) 22 rfl 5 ti _ Yba.underlying22 hti hz0 (by rw [hz1]; rfl) _ (n0 + k) cap' _ 1 1 rfl rfl (X ++ ats k) [.int .u8 64] (by rw [hz1, hxl, Nat.mul_one]) (Seg.ofRow (hR1.alloc _) 0 _ (fun j u hu => by rw [Nat.zero_add, List.getElem?_append_left (by rcases Nat.lt_or_ge j (X ++ ats k).length with h | h; exact h; rw [List.getElem?_eq_none h] at hu; cases hu)]; exact hu)) (by simp [hz1]) (Seg.ofRow (row_new rfl 5 [.int .u8 64]) 0 _ (by simp)) (by omega) (by omega) (by rw [hz2]; omega) ?_
        intro w1 cap2 R2 hx1 hs1 hc1 hl2 hr1
        have e3 : X ++ ats k ++ ([Value.int .u8 64] ++ R2) = (X ++ ats (k + 1)) ++ R2 := by rw [ats_succ]; simp
        rw [e3] at hr1 hl2
        rw [hz1, Nat.mul_one] at hl2
        obtain ⟨H, hH⟩ : ∃ H, (wr.alloc (.cells #[.int .u8 64] 5)).heap.size = H := ⟨_, rfl⟩
        rw [hH] at hr1
        have hHs : wr.heap.size + 1 = H := by rw [← hH, size_alloc]
        have HS' : Hid (St w0 B g0 X (k + 1) H cap2 w1) := by
          have := hS.out.sz
          refine ⟨⟨R2, hr1, hl2⟩, ?_, by omega, hx1.below (hS.out.b.alloc (by omega) _) (by rw [size_alloc]; omega) (by simp), by have := hx1.size; rw [size_alloc] at this; omega⟩
          obtain ⟨R0, hR0⟩ := hS.out.old
          exact ⟨R0, (hR0.alloc _).ext hx1 (by simp)⟩
        clear hr1 hx1 hs1 e3 hl2
        go_wp2
        go_roundw
        case rel => exact ⟨k + 1, H, cap2, by omega, by simp [Nat.add_assoc], by go_num, HS'⟩
        case measure => simp [intOf]; omega
    · have hkn : k = n.toNat := by omega
      subst hkn
      go_wp2
      go_ret
      exact ⟨g, cap', rfl, hS.out⟩

end Go.Proofs.Ybulkcvec
