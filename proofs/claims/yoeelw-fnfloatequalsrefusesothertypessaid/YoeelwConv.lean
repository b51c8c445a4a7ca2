/-
  int64(a) OF A float64, WHATEVER a: an int64: in range, the number cut towards zero, the world as it was; else whatever the tape gives, the world drawn once.
-/
import Derived.Test.YoeelwRows
import Derived.WalkKit
import Derived.WalkLawsBesides
namespace Go.Proofs.Yoeelw

theorem conv_any (b : Nat) : ∃ f : World → Int,
    (∀ w, (convert 22 2 (.float .f64 b)).run Eelg.prog w = .ok (.int .i64 (f w)) w) ∨
    (∀ w, (convert 22 2 (.float .f64 b)).run Eelg.prog w = .ok (.int .i64 (f w)) w.drew) := by
  rcases h : floatToIntVal .f64 b .i64 with _ | n
  · refine ⟨fun w => IntKind.i64.wrap (Question.cut (.floatToInt .f64 b .i64) (w.tape w.drawn (.floatToInt .f64 b .i64))), .inr fun w => ?_⟩
    unfold floatToIntVal at h
    split at h
    · rename_i m he
      split at h
      · cases h
      · rename_i hb
        simp [convert, run_underlying Eelg.underlying22, run_underlying Eelg.underlying2, Conv.floatToInt, he, Question.forced]
        exact fun h1 h2 => absurd ⟨h1, h2⟩ hb
    · rename_i he
      simp [convert, run_underlying Eelg.underlying22, run_underlying Eelg.underlying2, Conv.floatToInt, he, Question.forced]
  · exact ⟨fun _ => n, .inl fun w => run_convert_float_int w 22 2 .f64 .i64 b n (by rw [Eelg.underlying22]; rfl) Eelg.underlying2 h⟩
end Go.Proofs.Yoeelw
