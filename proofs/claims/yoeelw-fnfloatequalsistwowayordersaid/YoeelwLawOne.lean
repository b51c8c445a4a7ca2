/-
  'Rows.FnFloatEqualsIsTwoWayOrderSaid', PROVED: the walk over the four ways in which two floats stand to each other; the row's step.
-/
import Derived.Test.YoeelwRows
import Derived.Test.YoeelwPlain
import Derived.Test.YoeelwCallees
import Derived.WalkKit
import Derived.WalkLawsBesides
import Derived.ProofKit
namespace Go.Proofs.Yoeelw.LawOne
open Go.ChangeShapes Go.WideShapes Go.ChangeAt Go.RowKit

theorem own : ownKnob Eelg.prog.godebug = none := by kernel_rfl

set_option maxHeartbeats 400000 in
/-- The walk, the way told by the two askings' answers, which agree with each other. -/
theorem walk (a b : Nat) (w : World) :
    Calls Eelg.prog 3 #[.float .f64 a, .float .f64 b] w fun e w' => e = .returned (.bool true) ∧ Grown w w' := by
  rcases order_ways FloatKind.f64.format a b with ⟨o1, o2⟩ | ⟨o1, o2⟩ | ⟨o1, o2⟩ | ⟨o1, o2⟩
  all_goals
    go_enter Eelg.func3, Eelg.ntmps3
    go_wp2_with fail
    refine (equals_float _ _ a b _ (by simp [go_sem]) (by simp [go_sem])).mono ?_
    rintro e w' ⟨rfl, n, rfl⟩
    go_wp2_with fail
    refine (equals_float _ _ b a _ (by simp [go_sem]) (by simp [go_sem])).mono ?_
    rintro e w' ⟨rfl, n, rfl⟩
    go_wp2
    go_ret
    exact ⟨rfl, by repeat (first | exact Grown.refl _ | apply Grown.drew | apply Grown.alloc)⟩

set_option maxRecDepth 100000 in
theorem lifted (os : Os) (started : os.Started) (H : Type) (enc : TypeId × Value → H) :
    ReturnsInHanded {} Eelg.checked os 3 .any (Rows.fnFloatEqualsIsTwoWayOrderSpec.pre6 enc Eelg.prog Eelg.f3 Rows.fnFloatEqualsIsTwoWayOrderRow.domain false) (Rows.fnFloatEqualsIsTwoWayOrderSpec.post enc Eelg.prog Eelg.f3 false true false false) := by
  refine returnsInHanded_of_change (C := Eelg.checked) own started (by kernel_rfl) Eelg.func3
    (ChangeSpec.witness6 (enc := enc) (C := Eelg.checked) false ⟨#[], #[.float .f64 0, .float .f64 0], []⟩ 8 (by kernel_rfl) (by kernel_rfl) (by kernel_rfl) (by kernel_rfl)) ?_
  intro W base args ds gs before hval0 hW hcnd _
  have hval : ∀ (j : Nat) t v, Eelg.f3.params[j]? = some t → args[j]? = some v → Value.okWide Eelg.prog W .any base t v := hval0
  have hW' := hW
  obtain ⟨p, q, hA0, hV, rfl, hfz, hnd⟩ := hW
  have hA : DataW.TrodAll enc Eelg.prog W 0 (fun _ => true) true Eelg.f3.params.toList args.toList ds p := hA0
  rw [Eelg.params3] at hA hval
  obtain ⟨v0, v1, d0, d1, p0, p1, rfl, rfl, rfl, h0, h1⟩ := trodAll_two hA
  obtain ⟨rfl, rfl⟩ := trodVars_none hV
  obtain ⟨a, rfl, rfl, rfl, wa⟩ := open_float Eelg.underlying22 (hval 0 22 v0 rfl rfl) h0
  obtain ⟨b, rfl, rfl, rfl, wb⟩ := open_float Eelg.underlying22 (hval 1 22 v1 rfl rfl) h1
  clear hA0 hval0
  simp only [List.append_nil] at hW'
  refine (walk a b W).mono fun e W' ⟨he, hg⟩ => ?_
  subst he
  exact ⟨_, rfl, post_of_same (pa := []) (pv := []) hW' (fun _ _ _ => trodAll_mk1 (shut_bool Eelg.underlying4 _)) (fun sp _ => trodAll_mk2 (shut_float Eelg.underlying22 wa) (shut_float Eelg.underlying22 wb)) (fun _ _ => rfl) rfl
    (hg.frame _) hg.2.1 (ok_one (by kernel_rfl) rfl (okWide_bool_mk Eelg.underlying4 _))⟩

end Go.Proofs.Yoeelw.LawOne
namespace Go.Proofs.Yoeelw
open Go.ChangeShapes Go.WideShapes Go.ChangeAt Go.RowKit

/-- THE STATEMENT. -/
theorem fnFloatEqualsIsTwoWayOrder_holds : Rows.FnFloatEqualsIsTwoWayOrderSaid :=
  OpenClaim.holds_of_wide 3 Eelg.f3 rfl rfl rfl rfl rfl rfl rfl ⟨rfl, rfl, rfl, rfl, rfl⟩ rfl rfl rfl rfl rfl (by kernel_rfl) Eelg.func3 (by kernel_rfl)
    (of_decide_eq_true (by kernel_rfl)) (by unfold Func.isWrapper; first | (rw [if_pos (by decide +kernel)]; kernel_rfl) | (rw [if_neg (by decide +kernel)]; exact ⟨rfl, rfl⟩))
    (fun os started H enc _ => LawOne.lifted os started H enc)

end Go.Proofs.Yoeelw
