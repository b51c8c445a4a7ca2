/-
  THE PLAIN LAW: how two floats stand to each other, asked the other way round. No Go in sight.
-/
import Ieee.Arith
namespace Go.Proofs.Yoeelw
open Ieee

theorem datum_order_swap (x y : Datum) : y.order x = (x.order y).map Ordering.swap := by
  cases x with
  | nan s t => cases y <;> rfl
  | infinity s =>
    cases y with
    | nan t u => rfl
    | infinity t => simp only [Datum.order, Option.map_some]; rw [Nat.compare_swap]
    | number t m i => cases s <;> rfl
  | number s m i =>
    cases y with
    | nan t u => rfl
    | infinity t => cases t <;> rfl
    | number t n j => simp only [Datum.order, Option.map_some]; rw [Int.min_comm j i, Int.compare_swap]

theorem order_swap (f : Format) (a b : Nat) : f.order b a = (f.order a b).map Ordering.swap := datum_order_swap _ _

/-- The four ways in which two words stand to each other, both askings told. -/
theorem order_ways (f : Format) (a b : Nat) :
    (f.order a b = none ∧ f.order b a = none) ∨ (f.order a b = some .lt ∧ f.order b a = some .gt) ∨
    (f.order a b = some .eq ∧ f.order b a = some .eq) ∨ (f.order a b = some .gt ∧ f.order b a = some .lt) := by
  rw [order_swap f a b]
  rcases h : f.order a b with _ | o
  · simp
  · cases o <;> simp

/-- A word against itself: not to be compared (a NaN), or equal. -/
theorem order_self (f : Format) (a : Nat) : f.order a a = none ∨ f.order a a = some .eq := by
  rcases order_ways f a a with h | h | h | h
  · exact .inl h.1
  · rw [h.1] at h; exact absurd h.2 (by simp)
  · exact .inr h.1
  · rw [h.1] at h; exact absurd h.2 (by simp)

end Go.Proofs.Yoeelw
