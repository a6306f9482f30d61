/- The law 'LawS4813BModel' proved out of three contracts: gcd (YbulkcuqqGcdWalk), abs and the search (YbulkcuqqModelWalk). -/
import Derived.Test.YbulkcuqqRows
import Derived.WalkKit
import Derived.ProofKit
import Derived.OpenShut
import Derived.ShutString
import Derived.Test.YbulkcuqqModelWalk
namespace Go.Proofs.Ybulkcuqq.lawS4813BModel
open Go.ChangeShapes Go.WideShapes Go.ChangeAt Go.RowKit
open Go.ChangeMaps (open_string shut_string)
set_option linter.unusedVariables false      -- a walk need not use every 'w<i>' (that an integer argument fits its kind)

theorem own : ownKnob Yba.prog.godebug = none := by kernel_rfl

theorem grown_trans {W a b : World} (h : Grown W a) (k : Grown a b) : Grown W b := by
  refine ⟨?_, fun x => (k.2.1 x).trans (h.2.1 x), Nat.le_trans h.2.2 k.2.2⟩
  exact World.keptBut_trans h.1 k.1

/-! ### STEP 1: THE WALK: the Go text returns true. 'Grown w w'': the world has at most new blocks (Derived/RowKit3.lean). Part the cases AHEAD of 'go_enter' where a test parts the walk; take each callee by a contract of your own. -/
theorem walk (a0 : Int) (a1 : Int) (w0 : (Lit.int .i64 a0).wf = true) (w1 : (Lit.int .i64 a1).wf = true) (w : World) :
    Calls Yba.prog 5 #[.int .i64 a0, .int .i64 a1] w fun e w' => e = .returned (.bool true) ∧ Grown w w' := by
  have h0 := bounds_i64 w0
  have h1 := bounds_i64 w1
  obtain ⟨a, ha⟩ : ∃ a : Int, a0.tmod 2001 = a := ⟨_, rfl⟩
  obtain ⟨b, hb⟩ : ∃ b : Int, a1.tmod 2001 = b := ⟨_, rfl⟩
  have ba : -2000 ≤ a ∧ a ≤ 2000 := by have := Gcd.tmod_abs_lt a0 2001 (by decide); rw [ha] at this; omega
  have bb : -2000 ≤ b ∧ b ≤ 2000 := by have := Gcd.tmod_abs_lt a1 2001 (by decide); rw [hb] at this; omega
  go_enter Yba.func5, Yba.ntmps5
  go_wp2_with fail
  refine (gcd_any a b _ (by omega) (by omega)).mono ?_
  rintro e w' ⟨g, rfl, hG, hg⟩
  go_wp2_with fail
  refine (model_any a b _ ba bb).mono ?_
  rintro e w'' ⟨rfl, hg'⟩
  have hgg : Grown w w'' := grown_trans hg hg'
  clear ha hb
  have gb : g.natAbs ≤ 2000 := by
    have g1 := hG.1
    by_cases z : a = 0
    · subst z
      simp at g1
      omega
    · have := Nat.gcd_le_left (m := a.natAbs) b.natAbs (by omega)
      omega
  have gabs : ((a.natAbs.gcd b.natAbs : Nat) : Int) = g.natAbs := by rw [hG.1]
  have HG : Hid (Gcd.IsGcd a b g) := hG
  clear hG
  rw [gabs]
  clear gabs
  by_cases hp : 0 ≤ a
  · by_cases hq : 0 ≤ b
    · have e : g = (g.natAbs : Int) := by have := HG.out.2.2.2 hp hq; omega
      obtain ⟨m, hm⟩ : ∃ m : Int, (g.natAbs : Int) = m := ⟨_, rfl⟩
      rw [hm] at e ⊢
      clear hm
      subst e
      go_wp2
      go_ret
      exact ⟨by simp, hgg⟩
    · go_wp2_with fail
      refine (abs_any g _ (by omega)).mono ?_
      rintro e w3 ⟨rfl, rfl⟩
      go_wp2
      go_ret
      exact ⟨by simp, hgg⟩
  · go_wp2_with fail
    refine (abs_any g _ (by omega)).mono ?_
    rintro e w3 ⟨rfl, rfl⟩
    go_wp2
    go_ret
    exact ⟨by simp, hgg⟩

/-! ### THE ROW's STEP: WRITTEN OUT: LEAVE IT -/
set_option maxRecDepth 100000 in
theorem lifted (os : Os) (started : os.Started) (H : Type) (enc : TypeId × Value → H) :
    ReturnsInHanded {} Yba.checked os 5 .any (Rows.lawS4813BModelSpec.pre6 enc Yba.prog Yba.f5 Rows.lawS4813BModelRow.domain false) (Rows.lawS4813BModelSpec.post enc Yba.prog Yba.f5 false true false false) := by
  refine returnsInHanded_of_change (C := Yba.checked) own started (by kernel_rfl) Yba.func5
    (ChangeSpec.witness6 (enc := enc) (C := Yba.checked) false ⟨#[], #[.int .i64 0, .int .i64 0], []⟩ 8 (by kernel_rfl) (by kernel_rfl) (by kernel_rfl) (by kernel_rfl)) ?_
  intro W base args ds gs before hval0 hW hcnd _
  have hval : ∀ (j : Nat) t v, Yba.f5.params[j]? = some t → args[j]? = some v → Value.okWide Yba.prog W .any base t v := hval0
  have hW' := hW
  obtain ⟨p, q, hA0, hV, rfl, hfz, hnd⟩ := hW
  have hA : DataW.TrodAll enc Yba.prog W 0 (fun _ => true) true Yba.f5.params.toList args.toList ds p := hA0
  rw [Yba.params5] at hA hval
  obtain ⟨v0, vs0, d0, ds0, p0, q0, hargs, rfl, rfl, h0, r0⟩ := trodAll_cons hA
  obtain ⟨v1, vs1, d1, ds1, p1, q1, rfl, rfl, rfl, h1, r1⟩ := trodAll_cons r0
  obtain ⟨rfl, rfl, rfl⟩ := trodAll_nil r1
  obtain rfl : args = #[v0, v1] := by cases args; simp_all
  obtain ⟨rfl, rfl⟩ := trodVars_none hV
  obtain ⟨a0, rfl, rfl, rfl, w0⟩ := open_int Yba.underlying3 (hval 0 3 v0 rfl rfl) h0
  obtain ⟨a1, rfl, rfl, rfl, w1⟩ := open_int Yba.underlying3 (hval 1 3 v1 rfl rfl) h1
  clear hA0 hval0
  simp only [List.append_nil] at hW'
  refine (walk a0 a1 w0 w1 W).mono fun e W' ⟨he, hg⟩ => ?_
  subst he
  exact ⟨_, rfl, post_of_same (pa := []) (pv := []) hW' (fun _ _ _ => (trodAll_cons_mk (shut_bool Yba.underlying4 _) trodAll_mk0)) (fun sp _ => (trodAll_cons_mk (shut_int Yba.underlying3 w0) (trodAll_cons_mk (shut_int Yba.underlying3 w1) trodAll_mk0))) (fun _ _ => rfl) rfl
    (hg.frame _) hg.2.1 (ok_one (by kernel_rfl) rfl (okWide_bool_mk Yba.underlying4 _))⟩

theorem over : Rows.lawS4813BModelRow.holds Yba.pinned (OpenSpec.ofChange Rows.lawS4813BModelSpec) :=
  OpenClaim.holds_of_wide 5 Yba.f5 rfl rfl rfl rfl rfl rfl rfl ⟨rfl, rfl, rfl, rfl, rfl⟩ rfl rfl rfl rfl rfl (by kernel_rfl) Yba.func5 (by kernel_rfl)
    (of_decide_eq_true (by kernel_rfl)) (by unfold Func.isWrapper; first | (rw [if_pos (by decide +kernel)]; kernel_rfl) | (rw [if_neg (by decide +kernel)]; exact ⟨rfl, rfl⟩))
    (fun os started H enc _ => lifted os started H enc)

/-- ████ THE STATEMENT ████ -/
theorem proved : Rows.LawS4813BModelSaid :=
  over
end Go.Proofs.Ybulkcuqq.lawS4813BModel
