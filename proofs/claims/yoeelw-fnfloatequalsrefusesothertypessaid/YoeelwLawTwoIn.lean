/-
  THE WALK OF 'zzlaws_root_b3.FnFloatEqualsRefusesOtherTypes', INSIDE THE GUARD: int64(a) is taken; whatever int64 it is, a *Float is no *Int.
-/
import Derived.Test.YoeelwLawTwo
namespace Go.Proofs.Yoeelw.LawTwo
open Go.ChangeShapes Go.WideShapes Go.ChangeAt Go.RowKit

set_option maxHeartbeats 800000 in
theorem walk_in (a : Nat) (n c : Int) (s : ByteArray) (hs : s.size ≤ maxLen) (h : (s.size : Int) ≤ 1048576) (w : World)
    (g : (FloatKind.f64.format.order a 14114258407924393472 == some .gt || FloatKind.f64.format.order a 14114258407924393472 == some .eq) = true)
    (g' : (FloatKind.f64.format.order a 4890886371069617664 == some .lt || FloatKind.f64.format.order a 4890886371069617664 == some .eq) = true) :
    Calls Eelg.prog 4 #[.float .f64 a, .int .i64 n, .int .i32 c, .string s] w fun e w' => e = .returned (.bool true) ∧ Grown w w' := by
  have hd : decide ((s.size : Int) ≤ 1048576) = true := by simpa using h
  have hn : ¬ (1048576 : Int) < (s.size : Int) := by omega
  have hmk := make_one
  have hme := method_equals
  obtain ⟨f, hf⟩ := conv_any a
  rcases order_self FloatKind.f64.format a with ho | ho <;> rcases hf with hf | hf
  all_goals
    go_enter Eelg.func4, Eelg.ntmps4
    go_wp2_with fail
    refine (bytes_any _ _ _ s hs _).mono ?_
    rintro e w' ⟨rfl, rfl⟩
    rw [hd]
    go_wp2_with fail
    refine (equals_other _ 31 _ (by decide) _).mono ?_
    rintro e w' ⟨rfl, rfl⟩
    go_wp2_with fail
    refine (equals_other _ 31 _ (by decide) _).mono ?_
    rintro e w' ⟨rfl, rfl⟩
    go_wp2_with fail
    refine (equals_other _ 34 _ (by decide) _).mono ?_
    rintro e w' ⟨rfl, rfl⟩
    go_wp2_with fail
    refine (equals_other _ 37 _ (by decide) _).mono ?_
    rintro e w' ⟨rfl, rfl⟩
    go_wp2_with fail
    refine (equals_other _ 41 _ (by decide) _).mono ?_
    rintro e w' ⟨rfl, rfl⟩
    go_wp2_with fail
    refine (equals_other _ 47 _ (by decide) _).mono ?_
    rintro e w' ⟨rfl, rfl⟩
    go_wp2_with fail
    refine (copy_float _ a _ ?cell).mono ?_
    case cell => simp [go_sem]
    rintro e w' ⟨rfl, rfl⟩
    go_wp2_with fail
    refine (equals_float _ _ a a _ ?cell1 ?cell2).mono ?_
    case cell1 => simp [go_sem]
    case cell2 => simp [go_sem]
    rintro e w' ⟨rfl, k, rfl⟩
    go_wp2
    go_ret
    exact ⟨rfl, by repeat (first | exact Grown.refl _ | apply Grown.drew | apply Grown.alloc)⟩

end Go.Proofs.Yoeelw.LawTwo
