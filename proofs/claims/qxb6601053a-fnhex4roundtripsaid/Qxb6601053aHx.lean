/-
  hexDigit, isDigit and the bound on the lengths, each by its contract.
-/
import Derived.Test.Qxb6601053aRows
import Derived.WalkSpells
import Derived.WalkLawsBesides
import Derived.Deep.DeepCutAuto
namespace Go.Proofs.Qxb6601053a
open Go.RowKit
set_option linter.unusedVariables false

/-- A hex digit as hexDigit writes it. -/
def hexd (d : Nat) (b : Bool) : Int := if d < 10 then 48 + d else if b then 55 + d else 87 + d
theorem hexd_cases (d : Nat) (b : Bool) (h : d < 16) : (48 ≤ hexd d b ∧ hexd d b ≤ 57 ∧ hexd d b - 48 = d) ∨ (97 ≤ hexd d b ∧ hexd d b ≤ 102 ∧ hexd d b - 87 = d) ∨ (65 ≤ hexd d b ∧ hexd d b ≤ 70 ∧ hexd d b - 55 = d) := by
  unfold hexd
  by_cases h1 : d < 10
  · rw [if_pos h1]; omega
  · rw [if_neg h1]
    cases b
    · simp; omega
    · simp; omega

set_option maxHeartbeats 1000000 in
theorem hexDigit_any (d : Nat) (b : Bool) (w : World) (h : d < 16) :
    Calls Try.prog 16 #[.int .i64 d, .bool b] w fun e w' => e = .returned (.int .u8 (hexd d b)) ∧ w = w' := by
  have hd : d = 0 ∨ d = 1 ∨ d = 2 ∨ d = 3 ∨ d = 4 ∨ d = 5 ∨ d = 6 ∨ d = 7 ∨ d = 8 ∨ d = 9 ∨ d = 10 ∨ d = 11 ∨ d = 12 ∨ d = 13 ∨ d = 14 ∨ d = 15 := by omega
  clear h
  rcases hd with rfl | rfl | rfl | rfl | rfl | rfl | rfl | rfl | rfl | rfl | rfl | rfl | rfl | rfl | rfl | rfl <;> cases b <;>
    (go_enter Try.func16, Try.ntmps16
     go_wp2
     go_ret
     exact ⟨rfl, rfl⟩)

/-- A decimal digit. -/
def digB (x : Int) : Bool := decide (48 ≤ x) && decide (x ≤ 57)
theorem isDigit_any (x : Int) (w : World) (b : Bool) (hb : Hid (digB x = b)) :
    Calls Try.prog 26 #[.int .u8 x] w fun e w' => e = .returned (.bool b) ∧ w = w' := by
  have hb' := hb.out
  clear hb
  unfold digB at hb'
  by_cases h1 : 48 ≤ x
  · by_cases h2 : x ≤ 57
    · obtain rfl : b = true := by rw [← hb']; simp [h1, h2]
      clear hb'
      go_enter Try.func26, Try.ntmps26
      go_wp2
      go_ret
      exact ⟨rfl, rfl⟩
    · obtain rfl : b = false := by rw [← hb']; simp [h1, h2]
      clear hb'
      go_enter Try.func26, Try.ntmps26
      go_wp2
      go_ret
      exact ⟨rfl, rfl⟩
  · obtain rfl : b = false := by rw [← hb']; simp [h1]
    clear hb'
    go_enter Try.func26, Try.ntmps26
    go_wp2
    go_ret
    exact ⟨rfl, rfl⟩

theorem bytes15 (a : Option Addr) (len cap : Nat) (v u : Int) (a' : Option Addr) (len' cap' : Nat) (w : World) (h : len ≤ maxLen) (h' : len' ≤ maxLen) (b : Bool) (hb : Hid (decide (len + len' ≤ 1048576) = b)) :
    Calls Try.prog 15 #[.slice a len cap, .int .u16 v, .int .u8 u, .slice a' len' cap'] w fun e w' => e = .returned (.bool b) ∧ w = w' := by
  have hb' := hb.out
  clear hb
  unfold maxLen at h h'
  by_cases c1 : len ≤ 1048576
  · by_cases c2 : len' ≤ 1048576
    · by_cases c3 : len + len' ≤ 1048576
      · have : b = true := by simpa [c3] using hb'.symm
        subst this
        clear hb'
        go_enter Try.func15, Try.ntmps15
        go_wp2
        go_ret
        exact ⟨rfl, rfl⟩
      · have : b = false := by simpa [c3] using hb'.symm
        subst this
        clear hb'
        go_enter Try.func15, Try.ntmps15
        go_wp2
        go_ret
        exact ⟨rfl, rfl⟩
    · have : b = false := by rw [← hb']; exact decide_eq_false (by omega)
      subst this
      clear hb'
      go_enter Try.func15, Try.ntmps15
      go_wp2
      go_ret
      exact ⟨rfl, rfl⟩
  · have : b = false := by rw [← hb']; exact decide_eq_false (by omega)
    subst this
    clear hb'
    go_enter Try.func15, Try.ntmps15
    go_wp2
    go_ret
    exact ⟨rfl, rfl⟩
end Go.Proofs.Qxb6601053a
