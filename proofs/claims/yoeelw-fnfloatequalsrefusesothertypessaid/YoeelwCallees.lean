/-
  THE CALLEES' CONTRACTS: (*Float).Equals at a *Float and at any other dynamic type.
-/
import Derived.Test.YoeelwRows
import Derived.WalkKit
import Derived.WalkLawsBesides
import Derived.ProofKit
import Derived.BigQuiet
import Derived.Deep.QuietTactic
namespace Go.Proofs.Yoeelw
open Go.ChangeShapes Go.WideShapes Go.ChangeAt Go.RowKit

theorem assert_yes (v : Value) (w : World) : (Instr.typeAssert (.iface 23 v) 46 23 true).run Eelg.prog w = .ok (.tuple #[v, .bool true]) w := by
  simp [Instr.typeAssert, run_underlying Eelg.underlying23]

set_option maxHeartbeats 400000 in
theorem equals_float (b1 b2 x y : Nat) (w : World) (c1 : w.cell? ⟨b1, 0, none⟩ = some (.float .f64 x)) (c2 : w.cell? ⟨b2, 0, none⟩ = some (.float .f64 y)) :
    Calls Eelg.prog 5 #[.pointer (some ⟨b1, 0, none⟩), .iface 23 (.pointer (some ⟨b2, 0, none⟩))] w fun e w' =>
      e = .returned (.bool (FloatKind.f64.format.order x y == some .eq)) ∧ ∃ n, w' = w.drewN n := by
  have ha := assert_yes
  go_enter Eelg.func5, Eelg.ntmps5
  go_wp2
  go_quiet (fail)
  go_wp2
  go_ret
  exact ⟨rfl, _, rfl⟩

theorem assert_no (t : TypeId) (v : Value) (ht : t ≠ 23) (w : World) : (Instr.typeAssert (.iface t v) 46 23 true).run Eelg.prog w = .ok (.tuple #[.pointer none, .bool false]) w := by
  have hz : (zeroValue 23).run Eelg.prog w = .ok (.pointer none) w := by kernel_rfl
  simp [Instr.typeAssert, run_underlying Eelg.underlying23, ht, hz]

set_option maxHeartbeats 400000 in
/-- At any dynamic type other than *Float: false, and nothing is turned. -/
theorem equals_other (p : Value) (t : TypeId) (v : Value) (ht : t ≠ 23) (w : World) :
    Calls Eelg.prog 5 #[p, .iface t v] w fun e w' => e = .returned (.bool false) ∧ w' = w := by
  have ha := assert_no t v ht
  go_enter Eelg.func5, Eelg.ntmps5
  go_wp2
  go_ret
  exact ⟨rfl, rfl⟩

set_option maxHeartbeats 400000 in
/-- (*Float).Copy: a new block that holds the same bits, behind the interface. -/
theorem copy_float (b x : Nat) (w : World) (c : w.cell? ⟨b, 0, none⟩ = some (.float .f64 x)) :
    Calls Eelg.prog 7 #[.pointer (some ⟨b, 0, none⟩)] w fun e w' =>
      e = .returned (.iface 23 (.pointer (some ⟨w.heap.size, 0, none⟩))) ∧ w' = w.alloc (.cells #[.float .f64 x] 27) := by
  go_enter Eelg.func7, Eelg.ntmps7
  go_wp2
  go_ret
  exact ⟨rfl, rfl⟩

set_option maxHeartbeats 400000 in
/-- The bound on the string's length: told, whatever it is; nothing is turned. -/
theorem bytes_any (a : Value) (n c : Value) (s : ByteArray) (hs : s.size ≤ maxLen) (w : World) :
    Calls Eelg.prog 6 #[a, n, c, .string s] w fun e w' => e = .returned (.bool (decide ((s.size : Int) ≤ 1048576))) ∧ w' = w := by
  unfold maxLen at hs
  by_cases h : (1048576 : Int) < (s.size : Int)
  · have hd : decide ((s.size : Int) ≤ 1048576) = false := by simpa using h
    rw [hd]
    go_enter Eelg.func6, Eelg.ntmps6
    go_wp2
    go_ret
    exact ⟨rfl, rfl⟩
  · have hd : decide ((s.size : Int) ≤ 1048576) = true := by simpa using h
    rw [hd]
    go_enter Eelg.func6, Eelg.ntmps6
    go_wp2
    go_ret
    exact ⟨rfl, rfl⟩
end Go.Proofs.Yoeelw
