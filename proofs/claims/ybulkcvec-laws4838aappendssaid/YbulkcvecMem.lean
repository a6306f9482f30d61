/- Rows of memory that are known whole; segments that are read; what append, copy, clear and a store do to them. No program in sight. -/
import Derived.WalkKit
import Derived.WalkSpells
import Derived.WalkLawsBesides
import Derived.Laws.CopyOwn
import Derived.Lib.SliceRun
import Derived.Lib.AppendZerosOnto
import Derived.Deep.AppendSrc
namespace Go.Proofs.Ybulkcvec.Mem
open Go.RowKit

/-- The block g holds the cells cur, none of them frozen. -/
def Row (w : World) (g : Nat) (t : TypeId) (cur : List Value) : Prop := w.heap[g]? = some (.cells cur.toArray t (0, 0))

/-- w' is w but for the blocks in S, new blocks, and the count of draws. -/
structure Ext (S : List Nat) (w w' : World) : Prop where
  os : w'.os = w.os
  tape : w'.tape = w.tape
  output : w'.output = w.output
  size : w.heap.size ≤ w'.heap.size
  block : ∀ g, g < w.heap.size → g ∉ S → w'.heap[g]? = w.heap[g]?

theorem size_alloc (w : World) (o : Obj) : (w.alloc o).heap.size = w.heap.size + 1 := by show (w.heap.push o).size = _; simp
theorem size_setCell (w : World) (a : Addr) (v : Value) : (w.setCell a v).heap.size = w.heap.size := by simp [World.setCell]

theorem Ext.refl (S : List Nat) (w : World) : Ext S w w := ⟨rfl, rfl, rfl, Nat.le_refl _, fun _ _ _ => rfl⟩
theorem Ext.trans {S : List Nat} {a b c : World} (h : Ext S a b) (k : Ext S b c) : Ext S a c :=
  ⟨k.os.trans h.os, k.tape.trans h.tape, k.output.trans h.output, Nat.le_trans h.size k.size, fun g h1 h2 => (k.block g (Nat.lt_of_lt_of_le h1 h.size) h2).trans (h.block g h1 h2)⟩
theorem Ext.next {S T : List Nat} {a b c : World} (h : Ext S a b) (k : Ext T b c) (hT : ∀ g ∈ T, g < a.heap.size → g ∈ S) : Ext S a c :=
  ⟨k.os.trans h.os, k.tape.trans h.tape, k.output.trans h.output, Nat.le_trans h.size k.size, fun g h1 h2 => (k.block g (Nat.lt_of_lt_of_le h1 h.size) (fun e => h2 (hT g e h1))).trans (h.block g h1 h2)⟩
theorem Ext.mono {S T : List Nat} {w w' : World} (h : Ext S w w') (hs : ∀ g, g ∈ S → g < w.heap.size → g ∈ T) : Ext T w w' :=
  ⟨h.os, h.tape, h.output, h.size, fun g h1 h2 => h.block g h1 (fun k => h2 (hs g k h1))⟩
theorem Ext.drewN {S : List Nat} {w w' : World} (h : Ext S w w') (n : Nat) : Ext S w (w'.drewN n) := ⟨h.os, h.tape, h.output, h.size, h.block⟩
theorem Ext.drew {S : List Nat} {w w' : World} (h : Ext S w w') : Ext S w w'.drew := ⟨h.os, h.tape, h.output, h.size, h.block⟩
theorem Ext.alloc {S : List Nat} {w w' : World} (h : Ext S w w') (o : Obj) : Ext S w (w'.alloc o) :=
  ⟨h.os, h.tape, h.output, by rw [size_alloc]; exact Nat.le_succ_of_le h.size, fun g h1 h2 => (Below.heap_alloc w' o g (Nat.lt_of_lt_of_le h1 h.size)).trans (h.block g h1 h2)⟩
theorem Ext.setCell {S : List Nat} {w w' : World} (h : Ext S w w') {a : Addr} (ha : a.block ∈ S ∨ w.heap.size ≤ a.block) (v : Value) : Ext S w (w'.setCell a v) := by
  refine ⟨h.os, h.tape, h.output, by rw [size_setCell]; exact h.size, fun g h1 h2 => ?_⟩
  rw [Below.heap_setCell _ _ _ _ (by intro e; subst e; rcases ha with k | k; exact h2 k; omega)]
  exact h.block g h1 h2
theorem Ext.setRow (w : World) (g : Nat) (cs : Array Value) : Ext [g] w (w.setRow g cs) :=
  ⟨rfl, rfl, rfl, by simp, fun k _ hk => setRow_other w g k cs (by simpa using hk)⟩
theorem Ext.below {S : List Nat} {B : Nat} {w0 w w' : World} (h : Ext S w w') (hb : Below B w0 w) (hB : B ≤ w.heap.size) (hS : ∀ g ∈ S, B ≤ g) : Below B w0 w' :=
  hb.trans ⟨h.os, h.tape, h.output, h.size, fun k hk => h.block k (by omega) (fun e => absurd (hS k e) (by omega))⟩
theorem Ext.cell {S : List Nat} {w w' : World} (h : Ext S w w') {a : Addr} (hl : a.block < w.heap.size) (ha : a.block ∉ S) : w'.cell? a = w.cell? a := World.cell?_of_block (h.block _ hl ha)

theorem Row.lt {w : World} {g : Nat} {t : TypeId} {cur : List Value} (h : Row w g t cur) : g < w.heap.size := by
  rcases Nat.lt_or_ge g w.heap.size with k | k
  · exact k
  · have h' : w.heap[g]? = some (.cells cur.toArray t (0, 0)) := h
    rw [Array.getElem?_eq_none k] at h'
    cases h'
theorem Row.ext {S : List Nat} {w w' : World} {g : Nat} {t : TypeId} {cur : List Value} (h : Row w g t cur) (k : Ext S w w') (hg : g ∉ S) : Row w' g t cur := (k.block g h.lt hg).trans h
theorem Row.drewN {w : World} {g : Nat} {t : TypeId} {cur : List Value} (h : Row w g t cur) (n : Nat) : Row (w.drewN n) g t cur := h
theorem Row.drew {w : World} {g : Nat} {t : TypeId} {cur : List Value} (h : Row w g t cur) : Row w.drew g t cur := h
theorem Row.cell {w : World} {g : Nat} {t : TypeId} {cur : List Value} (h : Row w g t cur) (j : Nat) : w.cell? ⟨g, j, none⟩ = cur[j]? := by
  have h' : w.heap[g]? = some (.cells cur.toArray t (0, 0)) := h
  simp [World.cell?, h']
theorem Row.frozen {w : World} {g : Nat} {t : TypeId} {cur : List Value} (h : Row w g t cur) (j : Nat) : w.frozen? ⟨g, j, none⟩ = false := by
  have h' : w.heap[g]? = some (.cells cur.toArray t (0, 0)) := h
  simp [World.frozen?, h']
theorem Row.setCell {w : World} {g : Nat} {t : TypeId} {cur : List Value} (h : Row w g t cur) (j : Nat) (v : Value) : Row (w.setCell ⟨g, j, none⟩ v) g t (cur.set j v) := by
  have h' : w.heap[g]? = some (.cells cur.toArray t (0, 0)) := h
  rw [setCell_eq_setRow w g j _ t _ v h']
  have := setRow_heap w g _ (cur.toArray.setIfInBounds j v) t _ h'
  simpa [Row] using this
theorem Row.setCell_other {w : World} {g : Nat} {t : TypeId} {cur : List Value} (h : Row w g t cur) {a : Addr} (ha : g ≠ a.block) (v : Value) : Row (w.setCell a v) g t cur :=
  (Below.heap_setCell w a v g ha).trans h
theorem Row.alloc {w : World} {g : Nat} {t : TypeId} {cur : List Value} (h : Row w g t cur) (o : Obj) : Row (w.alloc o) g t cur :=
  (Below.heap_alloc w o g h.lt).trans h
theorem row_new {w : World} {B : Nat} (h : w.heap.size = B) (t : TypeId) (cur : List Value) : Row (w.alloc (.cells cur.toArray t)) B t cur := by subst h; exact (MapKept.heap_alloc w _).1
theorem row_some {w : World} {g : Nat} {t : TypeId} {cur : List Value} (h : Row w g t cur) {j : Nat} (hj : j < cur.length) : ∃ v, w.cell? ⟨g, j, none⟩ = some v := ⟨_, by rw [h.cell, List.getElem?_eq_getElem hj]⟩

theorem add_flat (b o j : Nat) : (⟨b, o, none⟩ : Addr).add j = ⟨b, o + j, none⟩ := by simp [Addr.add]

/-- From p on lie the cells X (where there is any). -/
def Seg (w : World) (p : Option Addr) (X : List Value) : Prop := X = [] ∨ ∃ b o, p = some ⟨b, o, none⟩ ∧ b < w.heap.size ∧ ∀ j u, X[j]? = some u → w.cell? ⟨b, o + j, none⟩ = some u
theorem Seg.nil (w : World) (p : Option Addr) : Seg w p [] := .inl rfl
theorem Seg.drew {w : World} {p : Option Addr} {X : List Value} (h : Seg w p X) : Seg w.drew p X := h
theorem Seg.ofRow {w : World} {g : Nat} {t : TypeId} {cur : List Value} (h : Row w g t cur) (o : Nat) (X : List Value) (hX : ∀ j u, X[j]? = some u → cur[o + j]? = some u) : Seg w (some ⟨g, o, none⟩) X :=
  .inr ⟨g, o, rfl, h.lt, fun j u hu => by rw [h.cell]; exact hX j u hu⟩
theorem Seg.keep {w w' : World} {p : Option Addr} {X : List Value} (h : Seg w p X) (k : Ext [] w w') : Seg w' p X := by
  rcases h with h | ⟨b, o, h1, h2, h3⟩
  · exact .inl h
  · exact .inr ⟨b, o, h1, Nat.lt_of_lt_of_le h2 k.size, fun j u hu => (k.cell h2 (by simp)).trans (h3 j u hu)⟩

section
variable {P : Program} {ops : Array Oper} {o : Oper} {a : Act} {w : World} {K : Act → World → Prop} {Q : Exit → Act → World → Prop} {E : Prop}

theorem run_first {p : Option Addr} {X : List Value} (h : Seg w p X) (sz n m c : Nat) (hX : X.length = n * sz) : (Builtin.firstCells sz n (.slice p m c)).run P w = .ok X.toArray w := by
  rcases h with rfl | ⟨b, off, rfl, _, hc⟩
  · cases p with
    | none => rfl
    | some ad =>
      have : n * sz = 0 := by simpa using hX.symm
      simp [Builtin.firstCells, this, loadCells, loadCellsFrom]
  · exact run_firstCells_some (P := P) w sz n ⟨b, off, none⟩ m c X hX (fun j u hu => by rw [add_flat]; exact hc j u hu)

theorem run_store_row {g off : Nat} {t : TypeId} {cur : List Value} (hg : Row w g t cur) (cs : List Value) (hfit : off + cs.length ≤ cur.length) (h1 : ∀ v ∈ cs, v.oneCell' = true) :
    (storeCells ⟨g, off, none⟩ cs).run P w = .ok () (w.setRow g (splice cur off cs).toArray) := by
  have := run_storeCells_at P g off t cs 0 cur.toArray w hg (by simpa using hfit) h1
  simp only [Nat.add_zero] at this
  simpa [splice] using this

theorem step_of_wp (hgd : o.guard = none) (h : Oper.wp P o a w K Q) : if Region.wanted o (yielded ops a.tmps) = true then Oper.wp P o a w K Q else E := by
  have hw : Region.wanted o (yielded ops a.tmps) = true := by simp [Region.wanted, hgd]
  rw [if_pos hw]
  exact h

/-! ### append -/
/-- There is room, in a row that is known whole. -/
theorem append_room_wp (s x : Operand) (t : TypeId) (ho : o.op = .call { callee := .builtin .append, args := #[s, x], argTypes := #[t, t] })
    (e : TypeId) (i : TypeInfo) (ht : P.underlying t = some (.slice e)) (hi : P.info? e = some i)
    (g off n cap : Nat) (p : Option Addr) (m c : Nat) (hs : a.eval s = .slice (some ⟨g, off, none⟩) n cap) (hx : a.eval x = .slice p m c) (news : List Value) (hl : news.length = m * i.size) (hseg : Seg w p news) (h1 : ∀ v ∈ news, v.oneCell' = true)
    (hroom : n + m ≤ cap) (tg : TypeId) (cur : List Value) (hg : Row w g tg cur) (hfit : off + n * i.size + news.length ≤ cur.length)
    (h : ∀ w', Ext [g] w w' → w'.heap.size = w.heap.size → Row w' g tg (splice cur (off + n * i.size) news) → K (a.put o.dst (.slice (some ⟨g, off, none⟩) (n + m) cap)) w') : Oper.wp P o a w K Q := by
  have hfc := run_first (P := P) hseg i.size m m c hl
  have hst := run_store_row (P := P) hg news hfit h1
  have hrun : (Builtin.append_ #[t, t] o.type #[.slice (some ⟨g, off, none⟩) n cap, .slice p m c]).run P w = .ok (.slice (some ⟨g, off, none⟩) (n + m) cap) (w.setRow g (splice cur (off + n * i.size) news).toArray) := by
    simp [Builtin.append_, run_underlying ht, sizeOf, typeInfo, hi, Builtin.lenOf, hroom, hfc, Addr.add_lit, hst]
  unfold Oper.wp
  simp [execOp, ho, resolve, invoke, builtin, hs, hx, hrun, Result.andThen]
  exact h _ (Ext.setRow _ _ _) (by simp) (setRow_heap w g _ _ tg _ hg)

/-- There is none: a new row. -/
theorem append_grow_wp (s x : Operand) (t : TypeId) (ho : o.op = .call { callee := .builtin .append, args := #[s, x], argTypes := #[t, t] })
    (e : TypeId) (i : TypeInfo) (z : Value) (ht : P.underlying t = some (.slice e)) (hi : P.info? e = some i) (hz : i.zero = some z) (hzs : z.cells.size = i.size)
    (q : Option Addr) (n cap : Nat) (p : Option Addr) (m c : Nat) (hs : a.eval s = .slice q n cap) (hx : a.eval x = .slice p m c)
    (olds news : List Value) (hlo : olds.length = n * i.size) (hso : Seg w q olds) (hl : news.length = m * i.size) (hseg : Seg w p news)
    (hgr : cap < n + m) (hb : n + m ≤ 1000000) (hbytes : i.bytes ≤ 1000)
    (h : ∀ w' cap' rest, Ext [] w w' → w'.heap.size = w.heap.size + 1 → n + m ≤ cap' → (olds ++ (news ++ rest)).length = cap' * i.size → Row w' w.heap.size e (olds ++ (news ++ rest)) → K (a.put o.dst (.slice (some ⟨w.heap.size, 0, none⟩) (n + m) cap')) w') : Oper.wp P o a w K Q := by
  have hfo := run_first (P := P) (Seg.drew hso) i.size n n cap hlo
  have hfn := run_first (P := P) (Seg.drew hseg) i.size m m c hl
  have hn : ¬ (n + m ≤ cap) := by omega
  have h63' : ¬ (9223372036854775807 < ((n : Int) + (m : Int))) := by omega
  have hmul : (n + m) * i.bytes ≤ 1000000 * 1000 := Nat.mul_le_mul hb hbytes
  have hfit := growslice_fits (need := n + m) (old := cap) (bytes := i.bytes) hgr (by omega)
  have h48' : ¬ (281474976710656 < Builtin.nextslicecap (n + m) cap * i.bytes) := by omega
  have hrun : (Builtin.append_ #[t, t] o.type #[.slice q n cap, .slice p m c]).run P w = .ok (.slice (some ⟨w.heap.size, 0, none⟩) (n + m) (grownCap w (n + m) cap e))
      (w.drew.alloc (.cells (olds ++ (news ++ (Builtin.zeroCells z.cells (grownCap w (n + m) cap e - (n + m))).toList)).toArray e)) := by
    simp [Builtin.append_, run_underlying ht, sizeOf, typeInfo, zeroValue, hi, hz, Builtin.lenOf, hn, h63', h48', Question.forced, hfo, hfn, newRow, grownCap]
    congr 2
    apply Array.ext'
    simp
  unfold Oper.wp
  simp [execOp, ho, resolve, invoke, builtin, hs, hx, hrun, Result.andThen]
  have hge := grownCap_ge w (n + m) cap e
  refine h _ _ (Builtin.zeroCells z.cells (grownCap w (n + m) cap e - (n + m))).toList (((Ext.refl [] w).drew).alloc _) (by rw [size_alloc]; rfl) hge ?_ (row_new rfl _ _)
  simp only [List.length_append, hlo, hl, Array.length_toList, size_zeroCells, hzs, ← Nat.add_mul]
  congr 1
  omega

/-- append(s, make([]T, k)...) where there is no room. -/
theorem append_zeros_wp (s x : Operand) (t tn : TypeId) (ho : o.op = .call { callee := .builtin .append, args := #[s, x], argTypes := #[t, tn] })
    (e : TypeId) (i : TypeInfo) (z : Value) (kn : IntKind) (ht : P.underlying t = some (.slice e)) (htn : P.underlying tn = some (.int kn)) (hi : P.info? e = some i) (hz : i.zero = some z) (hzs : z.cells.size = i.size) (hpos : 0 < i.size)
    (q : Option Addr) (n cap k : Nat) (kq : IntKind) (hs : a.eval s = .slice q n cap) (hx : a.eval x = .int kq (k : Int)) (hk : 0 < k)
    (olds : List Value) (hlo : olds.length = n * i.size) (hso : Seg w q olds)
    (hgr : cap < n + k) (hb : n + k ≤ 1000000) (hbytes : i.bytes ≤ 1000)
    (h : ∀ w' cap' rest, Ext [] w w' → w'.heap.size = w.heap.size + 1 → n + k ≤ cap' → (olds ++ rest).length = cap' * i.size → Row w' w.heap.size e (olds ++ rest) → K (a.put o.dst (.slice (some ⟨w.heap.size, 0, none⟩) (n + k) cap')) w') : Oper.wp P o a w K Q := by
  have hfo := run_first (P := P) (Seg.drew hso) i.size n n cap hlo
  have hmul : (n + k) * i.bytes ≤ 1000000 * 1000 := Nat.mul_le_mul hb hbytes
  have hfit := growslice_fits (need := n + k) (old := cap) (bytes := i.bytes) hgr (by omega)
  have h48 : k * i.bytes ≤ 281474976710656 := by
    have : k * i.bytes ≤ (n + k) * i.bytes := Nat.mul_le_mul_right _ (by omega)
    omega
  have hrun := Lib.run_append_grow_zeros (P := P) w t tn o.type e i z kq kn ht htn hi hz q n cap olds hfo k hk hpos hgr (by omega) h48 hfit
  unfold Oper.wp
  simp [execOp, ho, resolve, invoke, builtin, hs, hx, hrun, Result.andThen]
  have hge := grownCap_ge w (n + k) cap e
  refine h _ _ ((Builtin.zeroCells z.cells k).toList ++ (Builtin.zeroCells z.cells (grownCap w (n + k) cap e - (n + k))).toList) (((Ext.refl [] w).drew).alloc _) (by rw [size_alloc]; rfl) hge ?_ ?_
  · simp only [List.length_append, hlo, Array.length_toList, size_zeroCells, hzs, ← Nat.add_mul]
    congr 1
    omega
  · have := row_new (w := w.drew) (B := w.heap.size) rfl e (olds ++ ((Builtin.zeroCells z.cells k).toList ++ (Builtin.zeroCells z.cells (grownCap w (n + k) cap e - (n + k))).toList))
    have ea : olds.toArray ++ (Builtin.zeroCells z.cells k ++ Builtin.zeroCells z.cells (grownCap w (n + k) cap e - (n + k))) = (olds ++ ((Builtin.zeroCells z.cells k).toList ++ (Builtin.zeroCells z.cells (grownCap w (n + k) cap e - (n + k))).toList)).toArray := by
      apply Array.ext'
      simp
    rw [ea]
    exact this

/-! ### copy, clear -/
theorem run_copy_some (dT sT e ty : TypeId) (i : TypeInfo) (hu : P.underlying dT = some (.slice e)) (hi : P.info? e = some i)
    (dp sp : Option Addr) (dLen dCap sLen sCap : Nat)
    (g off : Nat) (cur : List Value) (t : TypeId) (hg : Row w g t cur) (cs : List Value) (hn : cs.length = Nat.min sLen dLen * i.size) (hseg : Seg w sp cs)
    (hpos : 0 < cs.length → dp = some ⟨g, off, none⟩) (hfit : off + cs.length ≤ cur.length) (h1 : ∀ v ∈ cs, v.oneCell' = true) :
    (Builtin.copy_ #[dT, sT] ty #[.slice dp dLen dCap, .slice sp sLen sCap]).run P w = .ok (goInt (Nat.min sLen dLen)) (w.setRow g (splice cur off cs).toArray) := by
  have hfc := run_first (P := P) hseg i.size (Nat.min sLen dLen) sLen sCap hn
  by_cases h0 : cs.length = 0
  · obtain rfl : cs = [] := List.eq_nil_of_length_eq_zero h0
    have e0 : w.setRow g (splice cur off []).toArray = w := by
      have : splice cur off [] = cur := by simp [splice]
      rw [this]
      exact setRow_self w g _ t _ hg
    rw [e0]
    cases dp <;> simp [Builtin.copy_, run_underlying hu, Builtin.lenOf, sizeOf, typeInfo, hi, hfc, storeCells]
  · obtain rfl := hpos (by omega)
    have hst := run_store_row (P := P) hg cs hfit h1
    simp [Builtin.copy_, run_underlying hu, Builtin.lenOf, sizeOf, typeInfo, hi, hfc, hst]

theorem copy_wp (d s : Operand) (dT sT : TypeId) (ho : o.op = .call { callee := .builtin .copy, args := #[d, s], argTypes := #[dT, sT] })
    (e : TypeId) (i : TypeInfo) (hu : P.underlying dT = some (.slice e)) (hi : P.info? e = some i)
    (dp sp : Option Addr) (dLen dCap sLen sCap : Nat) (hd : a.eval d = .slice dp dLen dCap) (hs : a.eval s = .slice sp sLen sCap)
    (g off : Nat) (cur : List Value) (t : TypeId) (hg : Row w g t cur) (cs : List Value) (hn : cs.length = Nat.min sLen dLen * i.size) (hseg : Seg w sp cs)
    (hpos : 0 < cs.length → dp = some ⟨g, off, none⟩) (hfit : off + cs.length ≤ cur.length) (h1 : ∀ v ∈ cs, v.oneCell' = true)
    (h : ∀ w', Ext [g] w w' → w'.heap.size = w.heap.size → Row w' g t (splice cur off cs) → K (a.put o.dst (goInt (Nat.min sLen dLen))) w') : Oper.wp P o a w K Q := by
  have hfc := run_first (P := P) hseg i.size (Nat.min sLen dLen) sLen sCap hn
  by_cases h0 : cs.length = 0
  · obtain rfl : cs = [] := List.eq_nil_of_length_eq_zero h0
    have hrun : (Builtin.copy_ #[dT, sT] o.type #[.slice dp dLen dCap, .slice sp sLen sCap]).run P w = .ok (goInt (Nat.min sLen dLen)) w := by
      cases dp <;> simp [Builtin.copy_, run_underlying hu, Builtin.lenOf, sizeOf, typeInfo, hi, hfc, storeCells]
    unfold Oper.wp
    simp [execOp, ho, resolve, invoke, builtin, hd, hs, hrun, Result.andThen]
    exact h w (Ext.refl _ _) rfl (by simpa [splice] using hg)
  · obtain rfl := hpos (by omega)
    have hst := run_store_row (P := P) hg cs hfit h1
    have hrun : (Builtin.copy_ #[dT, sT] o.type #[.slice (some ⟨g, off, none⟩) dLen dCap, .slice sp sLen sCap]).run P w = .ok (goInt (Nat.min sLen dLen)) (w.setRow g (splice cur off cs).toArray) := by
      simp [Builtin.copy_, run_underlying hu, Builtin.lenOf, sizeOf, typeInfo, hi, hfc, hst]
    unfold Oper.wp
    simp [execOp, ho, resolve, invoke, builtin, hd, hs, hrun, Result.andThen]
    exact h _ (Ext.setRow _ _ _) (by simp) (setRow_heap w g _ _ t _ hg)

/-- 'clear(d)': what the cells become is looked into nowhere. -/
theorem run_clear_some (dT e : TypeId) (i : TypeInfo) (z : Value) (hu : P.underlying dT = some (.slice e)) (hi : P.info? e = some i) (hz : i.zero = some z) (hzs : z.cells.size = i.size) (hz1 : ∀ v ∈ z.cells, v.oneCell' = true)
    (g off n c : Nat) (hn : 0 < n) (cur : List Value) (t : TypeId) (hg : Row w g t cur) (hfit : off + n * i.size ≤ cur.length) :
    ∃ cs : List Value, cs.length = n * i.size ∧ ∀ ty, (Builtin.clear_ #[dT] ty #[.slice (some ⟨g, off, none⟩) n c]).run P w = .ok (.tuple #[]) (w.setRow g (splice cur off cs).toArray) := by
  refine ⟨(Builtin.zeroCells z.cells n).toList, by rw [Array.length_toList, size_zeroCells, hzs], fun ty => ?_⟩
  have hst := run_store_row (P := P) hg (Builtin.zeroCells z.cells n).toList (by rw [Array.length_toList, size_zeroCells, hzs]; exact hfit) (by
    intro v hv
    simp only [Builtin.zeroCells, Array.toList_map, List.mem_map] at hv
    obtain ⟨k, hk, rfl⟩ := hv
    simp only [Array.toList_range, List.mem_range] at hk
    have hp : 0 < z.cells.size := by
      rcases Nat.eq_zero_or_pos z.cells.size with h0 | h0
      · rw [h0] at hk; omega
      · exact h0
    have hlt : k % z.cells.size < z.cells.size := Nat.mod_lt _ hp
    rw [getElem!_pos z.cells (k % z.cells.size) hlt]
    exact hz1 _ (Array.getElem_mem hlt))
  obtain ⟨m, rfl⟩ : ∃ m, n = m + 1 := ⟨n - 1, by omega⟩
  simp [Builtin.clear_, run_underlying hu, zeroValue, typeInfo, hi, hz, hst]

theorem wpList_append_room {ors : List Oper} (hgd : o.guard = none) (s x : Operand) (t : TypeId) (ho : o.op = .call { callee := .builtin .append, args := #[s, x], argTypes := #[t, t] })
    (e : TypeId) (i : TypeInfo) (ht : P.underlying t = some (.slice e)) (hi : P.info? e = some i)
    (g off n cap : Nat) (p : Option Addr) (m c : Nat) (hs : a.eval s = .slice (some ⟨g, off, none⟩) n cap) (hx : a.eval x = .slice p m c) (news : List Value) (hl : news.length = m * i.size) (hseg : Seg w p news) (h1 : ∀ v ∈ news, v.oneCell' = true)
    (hroom : n + m ≤ cap) (tg : TypeId) (cur : List Value) (hg : Row w g tg cur) (hfit : off + n * i.size + news.length ≤ cur.length)
    (h : ∀ w', Ext [g] w w' → w'.heap.size = w.heap.size → Row w' g tg (splice cur (off + n * i.size) news) → wpList P ops Q ors (a.put o.dst (.slice (some ⟨g, off, none⟩) (n + m) cap)) w') : wpList P ops Q (o :: ors) a w :=
  wpList_plain hgd fun _ hK => append_room_wp s x t ho e i ht hi g off n cap p m c hs hx news hl hseg h1 hroom tg cur hg hfit fun a1 a2 a3 a4 => hK _ _ (h a1 a2 a3 a4)

theorem wpList_append_grow {ors : List Oper} (hgd : o.guard = none) (s x : Operand) (t : TypeId) (ho : o.op = .call { callee := .builtin .append, args := #[s, x], argTypes := #[t, t] })
    (e : TypeId) (i : TypeInfo) (z : Value) (ht : P.underlying t = some (.slice e)) (hi : P.info? e = some i) (hz : i.zero = some z) (hzs : z.cells.size = i.size)
    (q : Option Addr) (n cap : Nat) (p : Option Addr) (m c : Nat) (hs : a.eval s = .slice q n cap) (hx : a.eval x = .slice p m c)
    (olds news : List Value) (hlo : olds.length = n * i.size) (hso : Seg w q olds) (hl : news.length = m * i.size) (hseg : Seg w p news)
    (hgr : cap < n + m) (hb : n + m ≤ 1000000) (hbytes : i.bytes ≤ 1000)
    (h : ∀ w' cap' rest, Ext [] w w' → w'.heap.size = w.heap.size + 1 → n + m ≤ cap' → (olds ++ (news ++ rest)).length = cap' * i.size → Row w' w.heap.size e (olds ++ (news ++ rest)) → wpList P ops Q ors (a.put o.dst (.slice (some ⟨w.heap.size, 0, none⟩) (n + m) cap')) w') : wpList P ops Q (o :: ors) a w :=
  wpList_plain hgd fun _ hK => append_grow_wp s x t ho e i z ht hi hz hzs q n cap p m c hs hx olds news hlo hso hl hseg hgr hb hbytes fun a1 a2 a3 a4 a5 a6 a7 a8 => hK _ _ (h a1 a2 a3 a4 a5 a6 a7 a8)

theorem wpList_append_zeros {ors : List Oper} (hgd : o.guard = none) (s x : Operand) (t tn : TypeId) (ho : o.op = .call { callee := .builtin .append, args := #[s, x], argTypes := #[t, tn] })
    (e : TypeId) (i : TypeInfo) (z : Value) (kn : IntKind) (ht : P.underlying t = some (.slice e)) (htn : P.underlying tn = some (.int kn)) (hi : P.info? e = some i) (hz : i.zero = some z) (hzs : z.cells.size = i.size) (hpos : 0 < i.size)
    (q : Option Addr) (n cap k : Nat) (kq : IntKind) (hs : a.eval s = .slice q n cap) (hx : a.eval x = .int kq (k : Int)) (hk : 0 < k)
    (olds : List Value) (hlo : olds.length = n * i.size) (hso : Seg w q olds)
    (hgr : cap < n + k) (hb : n + k ≤ 1000000) (hbytes : i.bytes ≤ 1000)
    (h : ∀ w' cap' rest, Ext [] w w' → w'.heap.size = w.heap.size + 1 → n + k ≤ cap' → (olds ++ rest).length = cap' * i.size → Row w' w.heap.size e (olds ++ rest) → wpList P ops Q ors (a.put o.dst (.slice (some ⟨w.heap.size, 0, none⟩) (n + k) cap')) w') : wpList P ops Q (o :: ors) a w :=
  wpList_plain hgd fun _ hK => append_zeros_wp s x t tn ho e i z kn ht htn hi hz hzs hpos q n cap k kq hs hx hk olds hlo hso hgr hb hbytes fun a1 a2 a3 a4 a5 a6 a7 a8 => hK _ _ (h a1 a2 a3 a4 a5 a6 a7 a8)

theorem wpList_copy {ors : List Oper} (hgd : o.guard = none) (d s : Operand) (dT sT : TypeId) (ho : o.op = .call { callee := .builtin .copy, args := #[d, s], argTypes := #[dT, sT] })
    (e : TypeId) (i : TypeInfo) (hu : P.underlying dT = some (.slice e)) (hi : P.info? e = some i)
    (dp sp : Option Addr) (dLen dCap sLen sCap : Nat) (hd : a.eval d = .slice dp dLen dCap) (hs : a.eval s = .slice sp sLen sCap)
    (g off : Nat) (cur : List Value) (t : TypeId) (hg : Row w g t cur) (cs : List Value) (hn : cs.length = Nat.min sLen dLen * i.size) (hseg : Seg w sp cs)
    (hpos : 0 < cs.length → dp = some ⟨g, off, none⟩) (hfit : off + cs.length ≤ cur.length) (h1 : ∀ v ∈ cs, v.oneCell' = true)
    (h : ∀ w', Ext [g] w w' → w'.heap.size = w.heap.size → Row w' g t (splice cur off cs) → wpList P ops Q ors (a.put o.dst (goInt (Nat.min sLen dLen))) w') : wpList P ops Q (o :: ors) a w :=
  wpList_plain hgd fun _ hK => copy_wp d s dT sT ho e i hu hi dp sp dLen dCap sLen sCap hd hs g off cur t hg cs hn hseg hpos hfit h1 fun a1 a2 a3 a4 => hK _ _ (h a1 a2 a3 a4)
end

end Go.Proofs.Ybulkcvec.Mem
