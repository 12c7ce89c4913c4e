/-
  'endOfEscape' (functions 12, 22): what it computes, as a plain function 'esc', and its walk.
-/
import Derived.Test.Qxb6602172aModsClone
namespace Go.Proofs.Qxb6602172aMods
open Go.ChangeShapes Go.WideShapes Go.ChangeAt Go.RowKit
set_option linter.unusedVariables false

/-- A byte that may stand behind the backslash alone. -/
def short (c : Int) : Prop := c = 34 ∨ c = 92 ∨ c = 47 ∨ c = 98 ∨ c = 102 ∨ c = 110 ∨ c = 114 ∨ c = 116
def hexd (c : Int) : Prop := (48 ≤ c ∧ c ≤ 57) ∨ (97 ≤ c ∧ c ≤ 102) ∨ (65 ≤ c ∧ c ≤ 70)

/-- What endOfEscape answers: r. -/
def Esc (f : Nat → Int) (len i : Nat) (r : Int) : Prop :=
  (i + 1 = len ∧ r = -1) ∨ (i + 1 < len ∧ short (f (i + 1)) ∧ r = (i : Int) + 2) ∨
  (i + 1 < len ∧ f (i + 1) = 117 ∧ len < i + 6 ∧ r = -1) ∨
  (i + 1 < len ∧ f (i + 1) = 117 ∧ i + 6 ≤ len ∧ (∃ k, k < 4 ∧ ¬ hexd (f (i + 2 + k))) ∧ r = -1) ∨
  (i + 1 < len ∧ f (i + 1) = 117 ∧ i + 6 ≤ len ∧ (∀ k, k < 4 → hexd (f (i + 2 + k))) ∧ r = (i : Int) + 6) ∨
  (i + 1 < len ∧ ¬ short (f (i + 1)) ∧ f (i + 1) ≠ 117 ∧ r = -1)

theorem all_snoc {P : Int → Prop} {f : Nat → Int} {i k : Nat} (h : ∀ j, j < k → P (f (i + 2 + j))) (hk : P (f (i + 2 + k))) : ∀ j, j < k + 1 → P (f (i + 2 + j)) := by
  intro j hj
  by_cases e : j = k
  · subst e; exact hk
  · exact h j (by omega)

set_option maxHeartbeats 2000000 in
theorem esc_any (b off len cap i : Nat) (f : Nat → Int) (w : World) (hlen : len ≤ 1048576) (hcap : len ≤ cap) (hi : i < len)
    (hc : ∀ j, j < len → w.cell? ⟨b, off + j, none⟩ = some (.int .u8 (f j))) (hf : ∀ j, 0 ≤ f j ∧ f j ≤ 255) :
    Calls Trym.prog 22 #[.slice (some ⟨b, off, none⟩) len cap, .int .i64 (i : Int)] w fun e w' =>
      ∃ r, e = .returned (.int .i64 r) ∧ Esc f len i r ∧ w' = w := by
  by_cases h1 : i + 1 = len
  · have h1' : ((i : Int) + 1 == (len : Int)) = true := by simp; omega
    go_enter Trym.func22, Trym.ntmps22
    go_wp2
    go_ret
    exact ⟨_, rfl, .inl ⟨h1, rfl⟩, rfl⟩
  have h1' : ((i : Int) + 1 == (len : Int)) = false := by simp; omega
  have hlt : i + 1 < len := by omega
  obtain ⟨c, HC⟩ : ∃ c, Hid (c = f (i + 1)) := ⟨_, rfl⟩
  have hcell : w.cell? ⟨b, off + (i + 1), none⟩ = some (.int .u8 c) := by rw [HC.out]; exact hc _ hlt
  have hcb : 0 ≤ c ∧ c ≤ 255 := by rw [HC.out]; exact hf _
  have HA : Hid (∀ j, j < len → w.cell? ⟨b, off + j, none⟩ = some (.int .u8 (f j))) := hc
  have HF : Hid (∀ j, 0 ≤ f j ∧ f j ≤ 255) := hf
  clear hc hf
  by_cases hs : short c
  · have HS := hide hs
    clear hs
    go_enter Trym.func22, Trym.ntmps22
    go_wp2
    all_goals first
      | (go_ret; exact ⟨_, rfl, .inr (.inl ⟨hlt, HC.out ▸ HS.out, rfl⟩), rfl⟩)
      | (exfalso; have := HS.out; unfold short at this; simp_all <;> omega)
  by_cases hu : c = 117
  · subst hu
    clear hs
    by_cases h6 : len < i + 6
    · go_enter Trym.func22, Trym.ntmps22
      go_wp2
      go_ret
      exact ⟨_, rfl, .inr (.inr (.inl ⟨hlt, HC.out.symm, h6, rfl⟩)), rfl⟩
    · go_enter Trym.func22, Trym.ntmps22
      go_wp2
      go_loop [42] (fun t => ∃ k : Nat, k ≤ 4 ∧ t = .int .i64 k ∧ ∀ j, j < k → hexd (f (i + 2 + j))) (fun t => 4 - (intOf t).toNat)
      case atStart => exact ⟨0, by omega, rfl, fun j hj => absurd hj (Nat.not_lt_zero _)⟩
      case round =>
        obtain ⟨k, hk, rfl, hall⟩ := hrel
        have HH := hide hall
        clear hall
        by_cases hk4 : k < 4
        · obtain ⟨x, HX⟩ : ∃ x, Hid (x = f (i + 2 + k)) := ⟨_, rfl⟩
          have hxb : 0 ≤ x ∧ x ≤ 255 := by rw [HX.out]; exact HF.out _
          have hx : w.cell? ⟨b, off + (i + 2) + k, none⟩ = some (.int .u8 x) := by rw [HX.out, Nat.add_assoc]; exact HA.out _ (by omega)
          have hx7 : x < 48 ∨ (48 ≤ x ∧ x ≤ 57) ∨ (57 < x ∧ x < 65) ∨ (65 ≤ x ∧ x ≤ 70) ∨ (70 < x ∧ x < 97) ∨ (97 ≤ x ∧ x ≤ 102) ∨ 102 < x := by omega
          rcases hx7 with h | ⟨h, h'⟩ | ⟨h, h'⟩ | ⟨h, h'⟩ | ⟨h, h'⟩ | ⟨h, h'⟩ | h
          · have HN : Hid (¬ hexd x) := by unfold Hid hexd; omega
            have d1 : decide ((48 : Int) ≤ x) = false := by simp; omega
            have d2 : decide (x ≤ (57 : Int)) = true := by simp; omega
            have d3 : decide ((97 : Int) ≤ x) = false := by simp; omega
            have d4 : decide (x ≤ (102 : Int)) = true := by simp; omega
            have d5 : decide ((65 : Int) ≤ x) = false := by simp; omega
            have d6 : decide (x ≤ (70 : Int)) = true := by simp; omega
            clear hxb
            go_wp2
            go_ret
            exact ⟨_, rfl, .inr (.inr (.inr (.inl ⟨hlt, HC.out.symm, by omega, ⟨k, hk4, HX.out ▸ HN.out⟩, rfl⟩))), rfl⟩
          · have HN : Hid (hexd x) := by unfold Hid hexd; omega
            have d1 : decide ((48 : Int) ≤ x) = true := by simp; omega
            have d2 : decide (x ≤ (57 : Int)) = true := by simp; omega
            have d3 : decide ((97 : Int) ≤ x) = false := by simp; omega
            have d4 : decide (x ≤ (102 : Int)) = true := by simp; omega
            have d5 : decide ((65 : Int) ≤ x) = false := by simp; omega
            have d6 : decide (x ≤ (70 : Int)) = true := by simp; omega
            clear hxb
            go_wp2
            go_round
            case rel => exact ⟨k + 1, by omega, by go_num, all_snoc HH.out (HX.out ▸ HN.out)⟩
            case measure => simp [intOf]; omega
          · have HN : Hid (¬ hexd x) := by unfold Hid hexd; omega
            have d1 : decide ((48 : Int) ≤ x) = true := by simp; omega
            have d2 : decide (x ≤ (57 : Int)) = false := by simp; omega
            have d3 : decide ((97 : Int) ≤ x) = false := by simp; omega
            have d4 : decide (x ≤ (102 : Int)) = true := by simp; omega
            have d5 : decide ((65 : Int) ≤ x) = false := by simp; omega
            have d6 : decide (x ≤ (70 : Int)) = true := by simp; omega
            clear hxb
            go_wp2
            go_ret
            exact ⟨_, rfl, .inr (.inr (.inr (.inl ⟨hlt, HC.out.symm, by omega, ⟨k, hk4, HX.out ▸ HN.out⟩, rfl⟩))), rfl⟩
          · have HN : Hid (hexd x) := by unfold Hid hexd; omega
            have d1 : decide ((48 : Int) ≤ x) = true := by simp; omega
            have d2 : decide (x ≤ (57 : Int)) = false := by simp; omega
            have d3 : decide ((97 : Int) ≤ x) = false := by simp; omega
            have d4 : decide (x ≤ (102 : Int)) = true := by simp; omega
            have d5 : decide ((65 : Int) ≤ x) = true := by simp; omega
            have d6 : decide (x ≤ (70 : Int)) = true := by simp; omega
            clear hxb
            go_wp2
            go_round
            case rel => exact ⟨k + 1, by omega, by go_num, all_snoc HH.out (HX.out ▸ HN.out)⟩
            case measure => simp [intOf]; omega
          · have HN : Hid (¬ hexd x) := by unfold Hid hexd; omega
            have d1 : decide ((48 : Int) ≤ x) = true := by simp; omega
            have d2 : decide (x ≤ (57 : Int)) = false := by simp; omega
            have d3 : decide ((97 : Int) ≤ x) = false := by simp; omega
            have d4 : decide (x ≤ (102 : Int)) = true := by simp; omega
            have d5 : decide ((65 : Int) ≤ x) = true := by simp; omega
            have d6 : decide (x ≤ (70 : Int)) = false := by simp; omega
            clear hxb
            go_wp2
            go_ret
            exact ⟨_, rfl, .inr (.inr (.inr (.inl ⟨hlt, HC.out.symm, by omega, ⟨k, hk4, HX.out ▸ HN.out⟩, rfl⟩))), rfl⟩
          · have HN : Hid (hexd x) := by unfold Hid hexd; omega
            have d1 : decide ((48 : Int) ≤ x) = true := by simp; omega
            have d2 : decide (x ≤ (57 : Int)) = false := by simp; omega
            have d3 : decide ((97 : Int) ≤ x) = true := by simp; omega
            have d4 : decide (x ≤ (102 : Int)) = true := by simp; omega
            have d5 : decide ((65 : Int) ≤ x) = true := by simp; omega
            have d6 : decide (x ≤ (70 : Int)) = false := by simp; omega
            clear hxb
            go_wp2
            go_round
            case rel => exact ⟨k + 1, by omega, by go_num, all_snoc HH.out (HX.out ▸ HN.out)⟩
            case measure => simp [intOf]; omega
          · have HN : Hid (¬ hexd x) := by unfold Hid hexd; omega
            have d1 : decide ((48 : Int) ≤ x) = true := by simp; omega
            have d2 : decide (x ≤ (57 : Int)) = false := by simp; omega
            have d3 : decide ((97 : Int) ≤ x) = true := by simp; omega
            have d4 : decide (x ≤ (102 : Int)) = false := by simp; omega
            have d5 : decide ((65 : Int) ≤ x) = true := by simp; omega
            have d6 : decide (x ≤ (70 : Int)) = false := by simp; omega
            clear hxb
            go_wp2
            go_ret
            exact ⟨_, rfl, .inr (.inr (.inr (.inl ⟨hlt, HC.out.symm, by omega, ⟨k, hk4, HX.out ▸ HN.out⟩, rfl⟩))), rfl⟩
        · have : k = 4 := by omega
          subst this
          go_wp2
          go_ret
          exact ⟨_, rfl, .inr (.inr (.inr (.inr (.inl ⟨hlt, HC.out.symm, by omega, HH.out, rfl⟩)))), rfl⟩
  · have HS := hide hs
    have HU := hide hu
    clear hs
    have h34 : (c == 34) = false := by have := HS.out; unfold short at this; simp; omega
    go_enter Trym.func22, Trym.ntmps22
    go_wp2
    all_goals first
      | (go_ret; exact ⟨_, rfl, .inr (.inr (.inr (.inr (.inr ⟨hlt, HC.out ▸ HS.out, HC.out ▸ HU.out, rfl⟩)))), rfl⟩)
      | (exfalso; have := HS.out; unfold short at this; simp_all <;> omega)
end Go.Proofs.Qxb6602172aMods
