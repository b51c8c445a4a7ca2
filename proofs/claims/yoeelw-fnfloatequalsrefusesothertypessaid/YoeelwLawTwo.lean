/-
  THE WALK OF 'zzlaws_root_b3.FnFloatEqualsRefusesOtherTypes': call by call, each callee by its contract.
-/
import Derived.Test.YoeelwRows
import Derived.Test.YoeelwPlain
import Derived.Test.YoeelwCallees
import Derived.Test.YoeelwConv
import Derived.WalkKit
import Derived.WalkLawsBesides
import Derived.ProofKit
namespace Go.Proofs.Yoeelw.LawTwo
open Go.ChangeShapes Go.WideShapes Go.ChangeAt Go.RowKit

set_option maxHeartbeats 400000 in
/-- A long string: the law returns true at once. -/
theorem walk_long (a : Nat) (n c : Int) (s : ByteArray) (hs : s.size ≤ maxLen) (h : (1048576 : Int) < (s.size : Int)) (w : World) :
    Calls Eelg.prog 4 #[.float .f64 a, .int .i64 n, .int .i32 c, .string s] w fun e w' => e = .returned (.bool true) ∧ Grown w w' := by
  have hd : decide ((s.size : Int) ≤ 1048576) = false := by simpa using h
  go_enter Eelg.func4, Eelg.ntmps4
  go_wp2_with fail
  refine (bytes_any _ _ _ s hs _).mono ?_
  rintro e w' ⟨rfl, rfl⟩
  rw [hd]
  go_wp2
  go_ret
  exact ⟨rfl, Grown.refl _⟩

theorem make_one (w : World) : (Instr.makeSlice 44 (.int .i64 1) (.int .i64 1)).run Eelg.prog w = .ok (.slice (some ⟨w.heap.size, 0, none⟩) 1 1) (w.alloc (.cells #[.nilIface] 46)) := by kernel_rfl
theorem method_equals (a : Addr) (w : World) : (method 186 23 (.pointer (some a)) "Equals").run Eelg.prog w = .ok (5, .pointer (some a)) w := by kernel_rfl

set_option maxHeartbeats 800000 in
/-- Not within the bounds of int64(a)'s guard: two ways to fall out of it; a NaN or not. -/
theorem walk_out (a : Nat) (n c : Int) (s : ByteArray) (hs : s.size ≤ maxLen) (h : (s.size : Int) ≤ 1048576) (w : World)
    (g : (FloatKind.f64.format.order a 14114258407924393472 == some .gt || FloatKind.f64.format.order a 14114258407924393472 == some .eq) = false ∨
      ((FloatKind.f64.format.order a 14114258407924393472 == some .gt || FloatKind.f64.format.order a 14114258407924393472 == some .eq) = true ∧
       (FloatKind.f64.format.order a 4890886371069617664 == some .lt || FloatKind.f64.format.order a 4890886371069617664 == some .eq) = false)) :
    Calls Eelg.prog 4 #[.float .f64 a, .int .i64 n, .int .i32 c, .string s] w fun e w' => e = .returned (.bool true) ∧ Grown w w' := by
  have hd : decide ((s.size : Int) ≤ 1048576) = true := by simpa using h
  have hn : ¬ (1048576 : Int) < (s.size : Int) := by omega
  have hmk := make_one
  have hme := method_equals
  rcases order_self FloatKind.f64.format a with ho | ho <;> rcases g with g | ⟨g, g'⟩
  all_goals
    go_enter Eelg.func4, Eelg.ntmps4
    go_wp2_with fail
    refine (bytes_any _ _ _ s hs _).mono ?_
    rintro e w' ⟨rfl, rfl⟩
    rw [hd]
    go_wp2_with fail
    refine (equals_other _ 31 _ (by decide) _).mono ?_
    rintro e w' ⟨rfl, rfl⟩
    go_wp2_with fail
    refine (equals_other _ 34 _ (by decide) _).mono ?_
    rintro e w' ⟨rfl, rfl⟩
    go_wp2_with fail
    refine (equals_other _ 37 _ (by decide) _).mono ?_
    rintro e w' ⟨rfl, rfl⟩
    go_wp2_with fail
    refine (equals_other _ 41 _ (by decide) _).mono ?_
    rintro e w' ⟨rfl, rfl⟩
    go_wp2_with fail
    refine (equals_other _ 47 _ (by decide) _).mono ?_
    rintro e w' ⟨rfl, rfl⟩
    go_wp2_with fail
    refine (copy_float _ a _ ?cell).mono ?_
    case cell => simp [go_sem]
    rintro e w' ⟨rfl, rfl⟩
    go_wp2_with fail
    refine (equals_float _ _ a a _ ?cell1 ?cell2).mono ?_
    case cell1 => simp [go_sem]
    case cell2 => simp [go_sem]
    rintro e w' ⟨rfl, k, rfl⟩
    go_wp2
    go_ret
    exact ⟨rfl, by repeat (first | exact Grown.refl _ | apply Grown.drew | apply Grown.alloc)⟩

end Go.Proofs.Yoeelw.LawTwo
