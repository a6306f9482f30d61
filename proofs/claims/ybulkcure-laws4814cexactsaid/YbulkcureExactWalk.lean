/- LawS4814CExact, walked. -/
import Derived.Test.YbulkcureHello
namespace Go.Proofs.Ybulkcure
open Go.RowKit

theorem grown_trans {W a b : World} (h : Grown W a) (k : Grown a b) : Grown W b :=
  ⟨World.keptBut_trans h.1 k.1, fun x => (k.2.1 x).trans (h.2.1 x), Nat.le_trans h.2.2 k.2.2⟩

set_option maxRecDepth 100000 in
set_option maxHeartbeats 1000000 in
theorem exact_one (i : Int) (w : World) :
    Calls Yba.prog 5 #[.int .u8 1, .int .i64 i] w fun e w' => e = .returned (.bool true) ∧ Grown w w' := by
  go_enter Yba.func5, Yba.ntmps5
  go_wp2_with fail
  refine (hello_one i _).mono ?_
  rintro e w1 ⟨rfl, hg1⟩
  have hg : Grown w w1 := grown_trans ((Grown.refl w).alloc _ _) hg1
  clear hg1
  have hrest := rest_zero 1 i
  have hone := hello_one_cell 1 i
  have hsz : 44 = (helloC 1 i).toArray.size := rfl
  have k0 : (helloC 1 i).toArray[0]? = some (.int .u8 1) := rfl
  have k4 : (helloC 1 i).toArray[4]? = some (.int .u8 1) := rfl
  have k5 : (helloC 1 i).toArray[5]? = some (.int .i64 i) := rfl
  generalize (helloC 1 i).toArray = C at hrest hone hsz k0 k4 k5 ⊢
  have HR : Hid (∀ w, Calls Yba.prog 16 #[.agg C] w fun e w' => e = .returned (.bool true) ∧ Grown w w') := hrest
  have HO : Hid (C.all (·.oneCell') = true) := hone
  have HS : Hid ((Yba.prog.info? 68).map (·.size) = some C.size) := by rw [← hsz]; exact Yba.info68
  have HZ : Hid (44 = C.size) := hsz
  clear hrest hone hsz
  dsimp only
  iterate 4 go_step
  refine wpList_store_new rfl 68 (.tmp 6) (.tmp 12) rfl C _ _ rfl rfl rfl HS.out HZ.out HO.out ?_
  iterate 80 go_step
  refine wpList_load_new rfl 68 (.tmp 6) rfl C _ rfl rfl _ Yba.underlying68 rfl HS.out ?_
  go_wp2_with fail
  refine (HR.out _).mono ?_
  rintro e w2 ⟨rfl, hg2⟩
  go_wp2
  go_ret
  exact ⟨rfl, grown_trans (hg.alloc _ _) hg2⟩

set_option maxRecDepth 100000 in
set_option maxHeartbeats 1000000 in
theorem exact_two (kd i : Int) (w : World) (hk : (kd == 1) = false) :
    Calls Yba.prog 5 #[.int .u8 kd, .int .i64 i] w fun e w' => e = .returned (.bool true) ∧ Grown w w' := by
  go_enter Yba.func5, Yba.ntmps5
  go_wp2_with fail
  refine (hello_two kd i _ hk).mono ?_
  rintro e w1 ⟨rfl, hg1⟩
  have hg : Grown w w1 := grown_trans ((Grown.refl w).alloc _ _) hg1
  clear hg1
  have hrest := rest_zero 2 i
  have hone := hello_one_cell 2 i
  have hsz : 44 = (helloC 2 i).toArray.size := rfl
  have k0 : (helloC 2 i).toArray[0]? = some (.int .u8 1) := rfl
  have k4 : (helloC 2 i).toArray[4]? = some (.int .u8 2) := rfl
  have k5 : (helloC 2 i).toArray[5]? = some (.int .i64 i) := rfl
  generalize (helloC 2 i).toArray = C at hrest hone hsz k0 k4 k5 ⊢
  have HR : Hid (∀ w, Calls Yba.prog 16 #[.agg C] w fun e w' => e = .returned (.bool true) ∧ Grown w w') := hrest
  have HO : Hid (C.all (·.oneCell') = true) := hone
  have HS : Hid ((Yba.prog.info? 68).map (·.size) = some C.size) := by rw [← hsz]; exact Yba.info68
  have HZ : Hid (44 = C.size) := hsz
  clear hrest hone hsz
  dsimp only
  iterate 4 go_step
  refine wpList_store_new rfl 68 (.tmp 6) (.tmp 12) rfl C _ _ rfl rfl rfl HS.out HZ.out HO.out ?_
  iterate 76 go_step
  refine wpList_load_new rfl 68 (.tmp 6) rfl C _ rfl rfl _ Yba.underlying68 rfl HS.out ?_
  go_wp2_with fail
  refine (HR.out _).mono ?_
  rintro e w2 ⟨rfl, hg2⟩
  go_wp2
  go_ret
  exact ⟨rfl, grown_trans (hg.alloc _ _) hg2⟩

end Go.Proofs.Ybulkcure
