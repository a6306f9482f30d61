/- Hello, walked. -/
import Derived.Test.YbulkcureRest
import Derived.Deep.WholeRow
import Derived.Deep.MidRow
namespace Go.Proofs.Ybulkcure
open Go.RowKit

section
variable {P : Program} {ops : Array Oper} {rest : List Oper} {o : Oper} {a : Act} {w : World} {Q : Exit → Act → World → Prop}
theorem wpList_val (hgd : o.guard = none) (v : Value) (w' : World) (hrun : (execOp a.eval o).run P w = .ok (.value v) w') (h : wpList P ops Q rest (a.put o.dst v) w') : wpList P ops Q (o :: rest) a w :=
  wpList_plain hgd fun K hK => by unfold Oper.wp; rw [hrun]; exact hK _ _ h
theorem wpList_same (hgd : o.guard = none) (v : Value) (hrun : (execOp a.eval o).run P w = .ok (.value v) w) (h : wpList P ops Q rest (a.put o.dst v) w) : wpList P ops Q (o :: rest) a w :=
  wpList_val hgd v w hrun h
theorem wpList_skip (hgd : o.guard = none) (w' : World) (hrun : (execOp a.eval o).run P w = .ok .skip w') (h : wpList P ops Q rest (a.put o.dst undef) w') : wpList P ops Q (o :: rest) a w :=
  wpList_plain hgd fun K hK => by unfold Oper.wp; rw [hrun]; exact hK _ _ h

/-- a whole struct into the block that was made last -/
theorem wpList_store_new (hgd : o.guard = none) (t : TypeId) (x y : Operand) (ho : o.op = .store t x y) (C Z : Array Value) (B : Nat) (hB : w.heap.size = B)
    (hx : a.eval x = .pointer (some ⟨B, 0, none⟩)) (hy : a.eval y = .agg C) (hi : (P.info? t).map (·.size) = some C.size) (hs : Z.size = C.size) (h1 : C.all (·.oneCell') = true)
    (h : wpList P ops Q rest (a.put o.dst undef) (w.alloc (.cells C t))) : wpList P ops Q (o :: rest) a (w.alloc (.cells Z t)) := by
  subst hB
  refine wpList_skip hgd _ ?_ h
  have := run_storeAt_new (P := P) w t Z C hi hs h1
  simp only [execOp, ho, hx, hy, Sem.run_bind, this, Result.andThen_ok, Sem.run_pure]

/-- a whole struct out of the block that was made last -/
theorem wpList_load_new (hgd : o.guard = none) (t : TypeId) (x : Operand) (ho : o.op = .load t x) (C : Array Value) (B : Nat) (hB : w.heap.size = B)
    (hx : a.eval x = .pointer (some ⟨B, 0, none⟩)) (d : TypeDesc) (hu : P.underlying t = some d) (hd : d.isRow = true) (hi : (P.info? t).map (·.size) = some C.size)
    (h : wpList P ops Q rest (a.put o.dst (.agg C)) (w.alloc (.cells C t))) : wpList P ops Q (o :: rest) a (w.alloc (.cells C t)) := by
  subst hB
  refine wpList_val hgd _ _ ?_ h
  have hr : (w.alloc (.cells C t)).rangeAt w.heap.size 0 C.toList := by
    have := World.rangeAt_of_block (heap_alloc_last w (.cells C t)) 0 C.size
    simpa using this
  have := run_loadAt_mid (P := P) (w.alloc (.cells C t)) w.heap.size 0 t C.toList d hr hu hd (by simpa using hi)
  simp only [execOp, ho, hx, Sem.run_bind, this, Result.andThen_ok, Sem.run_pure, Array.toArray_toList]

theorem results_new {fn : Func} {p : Tmp} {t : TypeId} (hf : fn.results = #[.cell p t]) (tmps : Array Value) (C : Array Value) (B : Nat) (hB : w.heap.size = B) (hp : tmps.getD p undef = .pointer (some ⟨B, 0, none⟩))
    (d : TypeDesc) (hu : P.underlying t = some d) (hd : d.isRow = true) (hi : (P.info? t).map (·.size) = some C.size) :
    (results fn tmps).run P (w.alloc (.cells C t)) = .ok (.agg C) (w.alloc (.cells C t)) := by
  subst hB
  have hr : (w.alloc (.cells C t)).rangeAt w.heap.size 0 C.toList := by
    have := World.rangeAt_of_block (heap_alloc_last w (.cells C t)) 0 C.size
    simpa using this
  have := run_loadVar_mid (P := P) (w.alloc (.cells C t)) w.heap.size 0 t C.toList d hr hu hd (by simpa using hi)
  have hp' : tmps[p]?.getD undef = .pointer (some ⟨w.heap.size, 0, none⟩) := by simpa using hp
  simp only [results, hf]
  simp [asAddr, hp', this]
end

theorem hello_one_cell (r i : Int) : (helloC r i).toArray.all (·.oneCell') = true := by simp [helloC, Value.oneCell']
theorem size_alloc (w : World) (o : Obj) : (w.alloc o).heap.size = w.heap.size + 1 := by show (w.heap.push o).size = _; simp
theorem Yba.info68 : (Yba.prog.info? 68).map (·.size) = some 44 := by kernel_rfl

set_option maxRecDepth 100000 in
set_option maxHeartbeats 1000000 in
theorem hello_one (i : Int) (w : World) :
    Calls Yba.prog 15 #[.agg #[.int .u8 1, .int .i64 i]] w fun e w' => e = .returned (.agg (helloC 1 i).toArray) ∧ Grown w w' := by
  go_enter Yba.func15, Yba.ntmps15
  iterate 54 go_step
  refine wpList_same rfl (.agg (helloC 1 i).toArray) (by kernel_rfl) ?_
  refine wpList_store_new rfl 68 (.tmp 2) (.tmp 10) rfl (helloC 1 i).toArray _ _ (size_alloc _ _) rfl rfl Yba.info68 rfl (hello_one_cell 1 i) ?_
  go_wp2
  refine bodyPost_ret (v := .agg (helloC 1 i).toArray) (results_new Yba.results15 _ _ _ (size_alloc _ _) rfl _ Yba.underlying68 rfl Yba.info68) rfl ⟨rfl, ((Grown.refl w).alloc _ _).alloc _ _⟩

set_option maxRecDepth 100000 in
set_option maxHeartbeats 1000000 in
theorem hello_two (kd i : Int) (w : World) (hk : (kd == 1) = false) :
    Calls Yba.prog 15 #[.agg #[.int .u8 kd, .int .i64 i]] w fun e w' => e = .returned (.agg (helloC 2 i).toArray) ∧ Grown w w' := by
  go_enter Yba.func15, Yba.ntmps15
  iterate 50 go_step
  refine wpList_same rfl (.agg (helloC 2 i).toArray) (by kernel_rfl) ?_
  refine wpList_store_new rfl 68 (.tmp 2) (.tmp 10) rfl (helloC 2 i).toArray _ _ (size_alloc _ _) rfl rfl Yba.info68 rfl (hello_one_cell 2 i) ?_
  go_wp2
  refine bodyPost_ret (v := .agg (helloC 2 i).toArray) (results_new Yba.results15 _ _ _ (size_alloc _ _) rfl _ Yba.underlying68 rfl Yba.info68) rfl ⟨rfl, ((Grown.refl w).alloc _ _).alloc _ _⟩

end Go.Proofs.Ybulkcure
