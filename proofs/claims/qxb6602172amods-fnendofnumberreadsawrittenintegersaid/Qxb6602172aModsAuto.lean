/-
  The automaton of the law: 'numStep' (24), 'numAccepting' (25), 'modelEndOfNumber' (16): what they compute, and their walks.
-/
import Derived.Test.Qxb6602172aModsNum
import Derived.Deep.Light
namespace Go.Proofs.Qxb6602172aMods
open Go.ChangeShapes Go.WideShapes Go.ChangeAt Go.RowKit
set_option linter.unusedVariables false

def dig (c : Int) : Bool := decide (48 ≤ c) && decide (c ≤ 57)

/-- numStep -/
def stp (s : Nat) (c : Int) : Int :=
  match s with
  | 0 => if c = 45 then 1 else if c = 48 then 2 else if dig c then 3 else -1
  | 1 => if c = 48 then 2 else if dig c then 3 else -1
  | 2 => if c = 46 then 4 else if c = 101 ∨ c = 69 then 6 else -1
  | 3 => if dig c then 3 else if c = 46 then 4 else if c = 101 ∨ c = 69 then 6 else -1
  | 4 => if dig c then 5 else -1
  | 5 => if dig c then 5 else if c = 101 ∨ c = 69 then 6 else -1
  | 6 => if c = 43 ∨ c = 45 then 7 else if dig c then 8 else -1
  | 7 => if dig c then 8 else -1
  | 8 => if dig c then 8 else -1
  | _ => -1

/-- numAccepting -/
def acc (s : Nat) : Bool := s == 2 || s == 3 || s == 5 || s == 8

theorem stp_range (s : Nat) (c : Int) : -1 ≤ stp s c ∧ stp s c ≤ 8 := by
  unfold stp
  split <;> (repeat' split) <;> omega

theorem ret_int {k : IntKind} {a b : Int} (h : a = b) : Ending.returned (.int k a) = .returned (.int k b) := by rw [h]

theorem digit_any (c : Int) (w : World) (hc : 0 ≤ c ∧ c ≤ 255) :
    Calls Trym.prog 19 #[.int .u8 c] w fun e w' => e = .returned (.bool (dig c)) ∧ w = w' := by
  unfold dig
  by_cases h1 : 48 ≤ c
  · have d1 : decide ((48 : Int) ≤ c) = true := by simpa using h1
    go_enter Trym.func19, Trym.ntmps19
    go_wp2
    go_ret
    exact ⟨by simp [h1], rfl⟩
  · have d1 : decide ((48 : Int) ≤ c) = false := by simpa using h1
    go_enter Trym.func19, Trym.ntmps19
    go_wp2
    go_ret
    exact ⟨by simp, rfl⟩

theorem acc_any (s : Nat) (hs : s ≤ 8) (w : World) :
    Calls Trym.prog 25 #[.int .i64 (s : Int)] w fun e w' => e = .returned (.bool (acc s)) ∧ w = w' := by
  have h9 : s = 0 ∨ s = 1 ∨ s = 2 ∨ s = 3 ∨ s = 4 ∨ s = 5 ∨ s = 6 ∨ s = 7 ∨ s = 8 := by omega
  clear hs
  rcases h9 with rfl | rfl | rfl | rfl | rfl | rfl | rfl | rfl | rfl
  all_goals
    go_enter Trym.func25, Trym.ntmps25
    go_wp2
    go_ret
    exact ⟨rfl, rfl⟩

set_option maxHeartbeats 2000000 in
set_option maxRecDepth 100000 in
theorem step_any (s : Nat) (hs : s ≤ 8) (c : Int) (hc : 0 ≤ c ∧ c ≤ 255) (w : World) :
    Calls Trym.prog 24 #[.int .i64 (s : Int), .int .u8 c] w fun e w' => e = .returned (.int .i64 (stp s c)) ∧ w = w' := by
  have h9 : s = 0 ∨ s = 1 ∨ s = 2 ∨ s = 3 ∨ s = 4 ∨ s = 5 ∨ s = 6 ∨ s = 7 ∨ s = 8 := by omega
  clear hs
  rcases h9 with rfl | rfl | rfl | rfl | rfl | rfl | rfl | rfl | rfl
  all_goals
    go_enter Trym.func24, Trym.ntmps24
    go_wp2_with (first | (go_at_call 19; refine (digit_any _ _ hc).mono ?_; rintro e w' ⟨rfl, rfl⟩))
    all_goals
      go_ret
      refine ⟨ret_int ?_, rfl⟩
      go_light
      simp_all [stp]
end Go.Proofs.Qxb6602172aMods
