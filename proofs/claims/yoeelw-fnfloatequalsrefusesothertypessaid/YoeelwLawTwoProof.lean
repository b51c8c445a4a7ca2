/-
  'Rows.FnFloatEqualsRefusesOtherTypesSaid', PROVED: the three walks joined; the row's step.
-/
import Derived.Test.YoeelwLawTwoIn
import Derived.Test.YoeelwOwn
namespace Go.Proofs.Yoeelw.LawTwo
open Go.ChangeShapes Go.WideShapes Go.ChangeAt Go.RowKit
open Go.ChangeMaps (open_string shut_string)

theorem walk (a : Nat) (n c : Int) (s : ByteArray) (hs : s.size ≤ maxLen) (w : World) :
    Calls Eelg.prog 4 #[.float .f64 a, .int .i64 n, .int .i32 c, .string s] w fun e w' => e = .returned (.bool true) ∧ Grown w w' := by
  by_cases h : (1048576 : Int) < (s.size : Int)
  · exact walk_long a n c s hs h w
  · have h' : (s.size : Int) ≤ 1048576 := by omega
    rcases g : (FloatKind.f64.format.order a 14114258407924393472 == some .gt || FloatKind.f64.format.order a 14114258407924393472 == some .eq) with _ | _
    · exact walk_out a n c s hs h' w (.inl g)
    · rcases g' : (FloatKind.f64.format.order a 4890886371069617664 == some .lt || FloatKind.f64.format.order a 4890886371069617664 == some .eq) with _ | _
      · exact walk_out a n c s hs h' w (.inr ⟨g, g'⟩)
      · exact walk_in a n c s hs h' w g g'

set_option maxRecDepth 100000 in
theorem lifted (os : Os) (started : os.Started) (H : Type) (enc : TypeId × Value → H) :
    ReturnsInHanded {} Eelg.checked os 4 .any (Rows.fnFloatEqualsRefusesOtherTypesSpec.pre6 enc Eelg.prog Eelg.f4 Rows.fnFloatEqualsRefusesOtherTypesRow.domain false) (Rows.fnFloatEqualsRefusesOtherTypesSpec.post enc Eelg.prog Eelg.f4 false true false false) := by
  refine returnsInHanded_of_change (C := Eelg.checked) own started (by kernel_rfl) Eelg.func4
    (ChangeSpec.witness6 (enc := enc) (C := Eelg.checked) false ⟨#[], #[.float .f64 0, .int .i64 0, .int .i32 0, .string ByteArray.empty], []⟩ 8 (by kernel_rfl) (by kernel_rfl) (by kernel_rfl) (by kernel_rfl)) ?_
  intro W base args ds gs before hval0 hW hcnd _
  have hval : ∀ (j : Nat) t v, Eelg.f4.params[j]? = some t → args[j]? = some v → Value.okWide Eelg.prog W .any base t v := hval0
  have hW' := hW
  obtain ⟨p, q, hA0, hV, rfl, hfz, hnd⟩ := hW
  have hA : DataW.TrodAll enc Eelg.prog W 0 (fun _ => true) true Eelg.f4.params.toList args.toList ds p := hA0
  rw [Eelg.params4] at hA hval
  obtain ⟨v0, v1, v2, v3, d0, d1, d2, d3, p0, p1, p2, p3, rfl, rfl, rfl, h0, h1, h2, h3⟩ := trodAll_four hA
  obtain ⟨rfl, rfl⟩ := trodVars_none hV
  obtain ⟨a, rfl, rfl, rfl, wa⟩ := open_float Eelg.underlying22 (hval 0 22 v0 rfl rfl) h0
  obtain ⟨n, rfl, rfl, rfl, wn⟩ := open_int Eelg.underlying2 (hval 1 2 v1 rfl rfl) h1
  obtain ⟨c, rfl, rfl, rfl, wc⟩ := open_int Eelg.underlying21 (hval 2 21 v2 rfl rfl) h2
  obtain ⟨s, rfl, rfl, rfl, hs⟩ := open_string Eelg.underlying9 (hval 3 9 v3 rfl rfl) h3
  clear hA0 hval0
  simp only [List.append_nil] at hW'
  refine (walk a n c s hs W).mono fun e W' ⟨he, hg⟩ => ?_
  subst he
  exact ⟨_, rfl, post_of_same (pa := []) (pv := []) hW' (fun _ _ _ => trodAll_mk1 (shut_bool Eelg.underlying4 _)) (fun sp _ => trodAll_mk4 (shut_float Eelg.underlying22 wa) (shut_int Eelg.underlying2 wn) (shut_int Eelg.underlying21 wc) (shut_string Eelg.underlying9 hs)) (fun _ _ => rfl) rfl
    (hg.frame _) hg.2.1 (ok_one (by kernel_rfl) rfl (okWide_bool_mk Eelg.underlying4 _))⟩

end Go.Proofs.Yoeelw.LawTwo
namespace Go.Proofs.Yoeelw
open Go.ChangeShapes Go.WideShapes Go.ChangeAt Go.RowKit

/-- THE STATEMENT. -/
theorem fnFloatEqualsRefusesOtherTypes_holds : Rows.FnFloatEqualsRefusesOtherTypesSaid :=
  OpenClaim.holds_of_wide 4 Eelg.f4 rfl rfl rfl rfl rfl rfl rfl ⟨rfl, rfl, rfl, rfl, rfl⟩ rfl rfl rfl rfl rfl (by kernel_rfl) Eelg.func4 (by kernel_rfl)
    (of_decide_eq_true (by kernel_rfl)) (by unfold Func.isWrapper; first | (rw [if_pos (by decide +kernel)]; kernel_rfl) | (rw [if_neg (by decide +kernel)]; exact ⟨rfl, rfl⟩))
    (fun os started H enc _ => LawTwo.lifted os started H enc)

end Go.Proofs.Yoeelw
