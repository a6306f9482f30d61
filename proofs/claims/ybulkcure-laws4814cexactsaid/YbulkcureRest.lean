/- The law's own test of a hello frame, walked: every field but type, role and id is zero. -/
import Derived.Test.YbulkcureRows
import Derived.WalkKit
import Derived.WalkSpells
import Derived.WalkLawsBesides
namespace Go.Proofs.Ybulkcure
open Go.RowKit

/-- a hello frame's cells: its role and id; all else zero -/
def helloC (r i : Int) : List Value :=
  [.int .u8 1, .int .u64 0, .int .i64 0, .pointer none, .int .u8 r, .int .i64 i, .int .u64 0, .int .i64 0, .pointer none, .string ⟨#[]⟩, .int .i64 0, .int .i64 0, .int .i64 0, .slice none 0 0, .bool false, .int .u64 0, .int .u64 0, .int .i64 0, .string ⟨#[]⟩, .int .i64 0, .int .u64 0, .int .u8 0, .int .i64 0, .int .u64 0, .slice none 0 0, .slice none 0 0, .int .i64 0, .slice none 0 0, .int .u64 0, .int .i64 0, .pointer none, .int .u64 0, .int .i64 0, .pointer none, .string ⟨#[]⟩, .int .i64 0, .int .i64 0, .int .i64 0, .slice none 0 0, .int .i64 0, .bool false, .int .u64 0, .int .i64 0, .pointer none]

theorem neq47 (w : World) : (binOp .neq 47 (.agg #[.int .u64 0, .int .i64 0, .pointer none]) (.agg #[.int .u64 0, .int .i64 0, .pointer none])).run Yba.prog w = .ok (.bool false) w := by kernel_rfl
theorem neq52 (w : World) : (binOp .neq 52 (.agg #[.string ⟨#[]⟩, .int .i64 0, .int .i64 0, .int .i64 0]) (.agg #[.string ⟨#[]⟩, .int .i64 0, .int .i64 0, .int .i64 0])).run Yba.prog w = .ok (.bool false) w := by kernel_rfl
theorem neq57 (w : World) : (binOp .neq 57 (.agg #[.int .i64 0, .string ⟨#[]⟩]) (.agg #[.int .i64 0, .string ⟨#[]⟩])).run Yba.prog w = .ok (.bool false) w := by kernel_rfl
theorem neq59 (w : World) : (binOp .neq 59 (.agg #[.int .i64 0, .int .u64 0]) (.agg #[.int .i64 0, .int .u64 0])).run Yba.prog w = .ok (.bool false) w := by kernel_rfl
theorem neq53 (w : World) : (binOp .neq 53 (.slice none 0 0) (.slice none 0 0)).run Yba.prog w = .ok (.bool false) w := by kernel_rfl
theorem neq61 (w : World) : (binOp .neq 61 (.slice none 0 0) (.slice none 0 0)).run Yba.prog w = .ok (.bool false) w := by kernel_rfl
theorem neq62 (w : World) : (binOp .neq 62 (.slice none 0 0) (.slice none 0 0)).run Yba.prog w = .ok (.bool false) w := by kernel_rfl
theorem neq23 (w : World) : (binOp .neq 23 (.slice none 0 0) (.slice none 0 0)).run Yba.prog w = .ok (.bool false) w := by kernel_rfl

set_option maxRecDepth 100000 in
set_option maxHeartbeats 1000000 in
theorem rest_aux (C : Array Value) (w : World)
    (k1 : C[1]? = some (.int .u64 0))
    (k2 : C[2]? = some (.int .i64 0))
    (k3 : C[3]? = some (.pointer none))
    (k6 : C[6]? = some (.int .u64 0))
    (k7 : C[7]? = some (.int .i64 0))
    (k8 : C[8]? = some (.pointer none))
    (k9 : C[9]? = some (.string ⟨#[]⟩))
    (k10 : C[10]? = some (.int .i64 0))
    (k11 : C[11]? = some (.int .i64 0))
    (k12 : C[12]? = some (.int .i64 0))
    (k13 : C[13]? = some (.slice none 0 0))
    (k14 : C[14]? = some (.bool false))
    (k15 : C[15]? = some (.int .u64 0))
    (k16 : C[16]? = some (.int .u64 0))
    (k17 : C[17]? = some (.int .i64 0))
    (k18 : C[18]? = some (.string ⟨#[]⟩))
    (k19 : C[19]? = some (.int .i64 0))
    (k20 : C[20]? = some (.int .u64 0))
    (k21 : C[21]? = some (.int .u8 0))
    (k22 : C[22]? = some (.int .i64 0))
    (k23 : C[23]? = some (.int .u64 0))
    (k24 : C[24]? = some (.slice none 0 0))
    (k25 : C[25]? = some (.slice none 0 0))
    (k26 : C[26]? = some (.int .i64 0))
    (k27 : C[27]? = some (.slice none 0 0))
    (k28 : C[28]? = some (.int .u64 0))
    (k29 : C[29]? = some (.int .i64 0))
    (k30 : C[30]? = some (.pointer none))
    (k31 : C[31]? = some (.int .u64 0))
    (k32 : C[32]? = some (.int .i64 0))
    (k33 : C[33]? = some (.pointer none))
    (k34 : C[34]? = some (.string ⟨#[]⟩))
    (k35 : C[35]? = some (.int .i64 0))
    (k36 : C[36]? = some (.int .i64 0))
    (k37 : C[37]? = some (.int .i64 0))
    (k38 : C[38]? = some (.slice none 0 0))
    (k39 : C[39]? = some (.int .i64 0))
    (k40 : C[40]? = some (.bool false))
    (k41 : C[41]? = some (.int .u64 0))
    (k42 : C[42]? = some (.int .i64 0))
    (k43 : C[43]? = some (.pointer none)) :
    Calls Yba.prog 16 #[.agg C] w fun e w' => e = .returned (.bool true) ∧ Grown w w' := by
  have e47 := neq47
  have e52 := neq52
  have e57 := neq57
  have e59 := neq59
  have e53 := neq53
  have e61 := neq61
  have e62 := neq62
  have e23 := neq23
  go_enter Yba.func16, Yba.ntmps16
  go_wp2
  go_ret
  exact ⟨rfl, ((Grown.refl w).alloc _ _).alloc _ _⟩

theorem rest_zero (r i : Int) (w : World) :
    Calls Yba.prog 16 #[.agg (helloC r i).toArray] w fun e w' => e = .returned (.bool true) ∧ Grown w w' :=
  rest_aux (helloC r i).toArray w rfl rfl rfl rfl rfl rfl rfl rfl rfl rfl rfl rfl rfl rfl rfl rfl rfl rfl rfl rfl rfl rfl rfl rfl rfl rfl rfl rfl rfl rfl rfl rfl rfl rfl rfl rfl rfl rfl rfl rfl rfl

end Go.Proofs.Ybulkcure
