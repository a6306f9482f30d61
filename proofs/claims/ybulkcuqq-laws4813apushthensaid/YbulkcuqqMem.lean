/- Rows of memory that are known whole, and what a copy, a clear and a store do to them. No program in sight. -/
import Derived.WalkKit
import Derived.WalkSpells
import Derived.WalkLawsBesides
import Derived.Laws.CopyOwn
import Derived.Lib.SliceRun
namespace Go.Proofs.Ybulkcuqq.Mem
open Go.RowKit

/-- The block g holds the cells cur, none of them frozen. -/
def Row (w : World) (g : Nat) (t : TypeId) (cur : List Value) : Prop := w.heap[g]? = some (.cells cur.toArray t (0, 0))

/-- w' is w but for the blocks in S (and the count of draws). -/
structure Turn (S : List Nat) (w w' : World) : Prop where
  os : w'.os = w.os
  tape : w'.tape = w.tape
  output : w'.output = w.output
  size : w'.heap.size = w.heap.size
  block : ∀ g, g ∉ S → w'.heap[g]? = w.heap[g]?

theorem Turn.refl (S : List Nat) (w : World) : Turn S w w := ⟨rfl, rfl, rfl, rfl, fun _ _ => rfl⟩
theorem Turn.trans {S : List Nat} {a b c : World} (h : Turn S a b) (k : Turn S b c) : Turn S a c :=
  ⟨k.os.trans h.os, k.tape.trans h.tape, k.output.trans h.output, k.size.trans h.size, fun g hg => (k.block g hg).trans (h.block g hg)⟩
theorem Turn.mono {S T : List Nat} {w w' : World} (h : Turn S w w') (hs : ∀ g, g ∈ S → g ∈ T) : Turn T w w' :=
  ⟨h.os, h.tape, h.output, h.size, fun g hg => h.block g (fun k => hg (hs g k))⟩
theorem Turn.drewN {S : List Nat} {w w' : World} (h : Turn S w w') (n : Nat) : Turn S w (w'.drewN n) := ⟨h.os, h.tape, h.output, h.size, h.block⟩
theorem Turn.drew {S : List Nat} {w w' : World} (h : Turn S w w') : Turn S w w'.drew := ⟨h.os, h.tape, h.output, h.size, h.block⟩
theorem Turn.from_drewN {S : List Nat} {w w' : World} {n : Nat} (h : Turn S (w.drewN n) w') : Turn S w w' := ⟨h.os, h.tape, h.output, h.size, h.block⟩
theorem Turn.from_drew {S : List Nat} {w w' : World} (h : Turn S w.drew w') : Turn S w w' := ⟨h.os, h.tape, h.output, h.size, h.block⟩
theorem Turn.setCell {S : List Nat} {w w' : World} (h : Turn S w w') {a : Addr} (ha : a.block ∈ S) (v : Value) : Turn S w (w'.setCell a v) := by
  refine ⟨h.os, h.tape, h.output, by simpa [World.setCell] using h.size, fun g hg => ?_⟩
  rw [Below.heap_setCell _ _ _ _ (by intro e; subst e; exact hg ha)]
  exact h.block g hg
theorem Turn.setRow (w : World) (g : Nat) (cs : Array Value) : Turn [g] w (w.setRow g cs) :=
  ⟨rfl, rfl, rfl, by simp, fun k hk => setRow_other w g k cs (by simpa using hk)⟩
theorem Turn.below {S : List Nat} {B : Nat} {w0 w w' : World} (h : Turn S w w') (hb : Below B w0 w) (hS : ∀ g ∈ S, B ≤ g) : Below B w0 w' :=
  hb.trans ⟨h.os, h.tape, h.output, Nat.le_of_eq h.size.symm, fun k hk => h.block k (fun e => absurd (hS k e) (by omega))⟩
theorem Turn.cell {S : List Nat} {w w' : World} (h : Turn S w w') {a : Addr} (ha : a.block ∉ S) : w'.cell? a = w.cell? a := World.cell?_of_block (h.block _ ha)
theorem Turn.frozen {S : List Nat} {w w' : World} (h : Turn S w w') {a : Addr} (ha : a.block ∉ S) : w'.frozen? a = w.frozen? a := World.frozen?_of_block (h.block _ ha)

theorem Row.turn {S : List Nat} {w w' : World} {g : Nat} {t : TypeId} {cur : List Value} (h : Row w g t cur) (k : Turn S w w') (hg : g ∉ S) : Row w' g t cur := (k.block g hg).trans h
theorem Row.drewN {w : World} {g : Nat} {t : TypeId} {cur : List Value} (h : Row w g t cur) (n : Nat) : Row (w.drewN n) g t cur := h
theorem Row.drew {w : World} {g : Nat} {t : TypeId} {cur : List Value} (h : Row w g t cur) : Row w.drew g t cur := h
theorem Row.cell {w : World} {g : Nat} {t : TypeId} {cur : List Value} (h : Row w g t cur) (j : Nat) : w.cell? ⟨g, j, none⟩ = cur[j]? := by
  have h' : w.heap[g]? = some (.cells cur.toArray t (0, 0)) := h
  simp [World.cell?, h']
theorem Row.frozen {w : World} {g : Nat} {t : TypeId} {cur : List Value} (h : Row w g t cur) (j : Nat) : w.frozen? ⟨g, j, none⟩ = false := by
  have h' : w.heap[g]? = some (.cells cur.toArray t (0, 0)) := h
  simp [World.frozen?, h']
theorem Row.lt {w : World} {g : Nat} {t : TypeId} {cur : List Value} (h : Row w g t cur) : g < w.heap.size := by
  rcases Nat.lt_or_ge g w.heap.size with k | k
  · exact k
  · have h' : w.heap[g]? = some (.cells cur.toArray t (0, 0)) := h
    rw [Array.getElem?_eq_none k] at h'
    cases h'
theorem Row.setCell {w : World} {g : Nat} {t : TypeId} {cur : List Value} (h : Row w g t cur) (j : Nat) (v : Value) : Row (w.setCell ⟨g, j, none⟩ v) g t (cur.set j v) := by
  have h' : w.heap[g]? = some (.cells cur.toArray t (0, 0)) := h
  rw [setCell_eq_setRow w g j _ t _ v h']
  have := setRow_heap w g _ (cur.toArray.setIfInBounds j v) t _ h'
  simpa [Row] using this
theorem Row.setCell_other {w : World} {g : Nat} {t : TypeId} {cur : List Value} (h : Row w g t cur) {a : Addr} (ha : g ≠ a.block) (v : Value) : Row (w.setCell a v) g t cur :=
  (Below.heap_setCell w a v g ha).trans h
theorem Row.alloc {w : World} {g : Nat} {t : TypeId} {cur : List Value} (h : Row w g t cur) (o : Obj) : Row (w.alloc o) g t cur :=
  (Below.heap_alloc w o g h.lt).trans h
theorem Row.new (w : World) (t : TypeId) (cur : List Value) : Row (w.alloc (.cells cur.toArray t)) w.heap.size t cur := (MapKept.heap_alloc w _).1

section
variable {P : Program} {ops : Array Oper} {o : Oper} {a : Act} {w : World} {K : Act → World → Prop} {Q : Exit → Act → World → Prop} {E : Prop}

/-- 'copy(d, s)', d in a row that is known whole: one step of a region that draws its order. -/
theorem step_copy (hgd : o.guard = none) (d s : Operand) (dT sT : TypeId)
    (ho : o.op = .call { callee := .builtin .copy, args := #[d, s], argTypes := #[dT, sT] }) (elem : TypeId) (hu : P.underlying dT = some (.slice elem)) (hsz : (P.info? elem).map (·.size) = some 1)
    (dp sp : Option Addr) (dLen dCap sLen sCap : Nat) (hd : a.eval d = .slice dp dLen dCap) (hs : a.eval s = .slice sp sLen sCap)
    (g off : Nat) (cur : List Value) (t : TypeId) (hg : Row w g t cur) (cs : List Value) (hn : cs.length = Nat.min sLen dLen)
    (hpos : 0 < cs.length → dp = some ⟨g, off, none⟩ ∧ ∃ ad, sp = some ad ∧ ∀ j v, cs[j]? = some v → w.cell? (ad.add j) = some v)
    (hfit : off + cs.length ≤ cur.length) (h1 : ∀ v ∈ cs, v.oneCell' = true)
    (h : ∀ w', Turn [g] w w' → Row w' g t (splice cur off cs) → K (a.put o.dst (goInt cs.length)) w') :
    if Region.wanted o (yielded ops a.tmps) = true then Oper.wp P o a w K Q else E := by
  have hw : Region.wanted o (yielded ops a.tmps) = true := by simp [Region.wanted, hgd]
  rw [if_pos hw]
  by_cases h0 : cs.length = 0
  · obtain rfl : cs = [] := List.eq_nil_of_length_eq_zero h0
    have hrun := run_copy_none (P := P) w dT sT o.type elem dp sp dLen dCap sLen sCap hu hsz (by simpa using hn.symm)
    unfold Oper.wp
    simp [execOp, ho, resolve, invoke, builtin, hd, hs, hrun, Result.andThen]
    exact h w (Turn.refl _ _) (by simpa [splice] using hg)
  · obtain ⟨rfl, ad, rfl, hsrc⟩ := hpos (by omega)
    have hrun := run_copy_row (P := P) w dT sT o.type elem g off dLen dCap ad sLen sCap cur.toArray t cs hu hsz hg hn hsrc (by simpa using hfit) h1
    unfold Oper.wp
    simp [execOp, ho, resolve, invoke, builtin, hd, hs, hrun, Result.andThen]
    exact h _ (Turn.setRow _ _ _) (show _ = _ by simpa [splice] using setRow_heap w g _ _ t _ hg)

theorem run_clear_row (t0 e ty : TypeId) (z : Value) (ht : P.underlying t0 = some (.slice e)) (hv : ∀ w, (zeroValue e).run P w = .ok z w) (hz : z.cells = #[z]) (h1 : z.oneCell' = true)
    (g off n c : Nat) (hn : 0 < n) (cur : List Value) (t : TypeId) (hg : Row w g t cur) (hfit : off + n ≤ cur.length) :
    (Builtin.clear_ #[t0] ty #[.slice (some ⟨g, off, none⟩) n c]).run P w = .ok (.tuple #[]) (w.setRow g (splice cur off (List.replicate n z)).toArray) := by
  have hzc : (Builtin.zeroCells z.cells n).toList = List.replicate n z := by
    rw [hz]
    simp [Builtin.zeroCells]
    apply List.ext_getElem
    · simp
    · intro i h1 h2
      simp [Nat.mod_one]
  have hst := run_storeCells_at P g off t (List.replicate n z) 0 cur.toArray w hg (by simpa using hfit) (by intro v hv'; rw [List.eq_of_mem_replicate hv']; exact h1)
  simp only [Nat.add_zero] at hst
  obtain ⟨m, rfl⟩ : ∃ m, n = m + 1 := ⟨n - 1, by omega⟩
  simp [Builtin.clear_, run_underlying ht, hv, hzc, hst, splice]

theorem run_clear_zero (t0 e ty : TypeId) (ht : P.underlying t0 = some (.slice e)) (dp : Option Addr) (c : Nat) :
    (Builtin.clear_ #[t0] ty #[.slice dp 0 c]).run P w = .ok (.tuple #[]) w := by
  cases dp <;> simp [Builtin.clear_, run_underlying ht]

theorem clear_wp (d : Operand) (dT : TypeId)
    (ho : o.op = .call { callee := .builtin .clear, args := #[d], argTypes := #[dT] }) (elem : TypeId) (hu : P.underlying dT = some (.slice elem)) (z : Value) (hv : ∀ w, (zeroValue elem).run P w = .ok z w) (hz : z.cells = #[z]) (h1 : z.oneCell' = true)
    (dp : Option Addr) (n c : Nat) (hd : a.eval d = .slice dp n c)
    (g off : Nat) (cur : List Value) (t : TypeId) (hg : Row w g t cur) (hpos : 0 < n → dp = some ⟨g, off, none⟩) (hfit : off + n ≤ cur.length)
    (h : ∀ w', Turn [g] w w' → Row w' g t (splice cur off (List.replicate n z)) → K (a.put o.dst (.tuple #[])) w') : Oper.wp P o a w K Q := by
  by_cases h0 : n = 0
  · subst h0
    have hrun := run_clear_zero (P := P) (w := w) dT elem o.type hu dp c
    unfold Oper.wp
    simp [execOp, ho, resolve, invoke, builtin, hd, hrun, Result.andThen]
    exact h w (Turn.refl _ _) (by simpa [splice] using hg)
  · obtain rfl := hpos (by omega)
    have hrun := run_clear_row (P := P) (w := w) dT elem o.type z hu hv hz h1 g off n c (by omega) cur t hg hfit
    unfold Oper.wp
    simp [execOp, ho, resolve, invoke, builtin, hd, hrun, Result.andThen]
    exact h _ (Turn.setRow _ _ _) (setRow_heap w g _ _ t _ hg)

/-- 'clear(d)', d in a row that is known whole: one step of a region that draws its order. -/
theorem step_clear (hgd : o.guard = none) (d : Operand) (dT : TypeId)
    (ho : o.op = .call { callee := .builtin .clear, args := #[d], argTypes := #[dT] }) (elem : TypeId) (hu : P.underlying dT = some (.slice elem)) (z : Value) (hv : ∀ w, (zeroValue elem).run P w = .ok z w) (hz : z.cells = #[z]) (h1 : z.oneCell' = true)
    (dp : Option Addr) (n c : Nat) (hd : a.eval d = .slice dp n c)
    (g off : Nat) (cur : List Value) (t : TypeId) (hg : Row w g t cur) (hpos : 0 < n → dp = some ⟨g, off, none⟩) (hfit : off + n ≤ cur.length)
    (h : ∀ w', Turn [g] w w' → Row w' g t (splice cur off (List.replicate n z)) → K (a.put o.dst (.tuple #[])) w') :
    if Region.wanted o (yielded ops a.tmps) = true then Oper.wp P o a w K Q else E := by
  have hw : Region.wanted o (yielded ops a.tmps) = true := by simp [Region.wanted, hgd]
  rw [if_pos hw]
  exact clear_wp d dT ho elem hu z hv hz h1 dp n c hd g off cur t hg hpos hfit h

/-- the same at a plain region's list -/
theorem wpList_clear {rest : List Oper} (hgd : o.guard = none) (d : Operand) (dT : TypeId)
    (ho : o.op = .call { callee := .builtin .clear, args := #[d], argTypes := #[dT] }) (elem : TypeId) (hu : P.underlying dT = some (.slice elem)) (z : Value) (hv : ∀ w, (zeroValue elem).run P w = .ok z w) (hz : z.cells = #[z]) (h1 : z.oneCell' = true)
    (dp : Option Addr) (n c : Nat) (hd : a.eval d = .slice dp n c)
    (g off : Nat) (cur : List Value) (t : TypeId) (hg : Row w g t cur) (hpos : 0 < n → dp = some ⟨g, off, none⟩) (hfit : off + n ≤ cur.length)
    (h : ∀ w', Turn [g] w w' → Row w' g t (splice cur off (List.replicate n z)) → wpList P ops Q rest (a.put o.dst (.tuple #[])) w') : wpList P ops Q (o :: rest) a w := by
  refine wpList_plain hgd fun K hK => ?_
  exact clear_wp d dT ho elem hu z hv hz h1 dp n c hd g off cur t hg hpos hfit (fun w' h1 h2 => hK _ _ (h w' h1 h2))
end

end Go.Proofs.Ybulkcuqq.Mem
