/-
  'skipString' (function 28) on a text that holds an encoded string: its walk.
-/
import Derived.Test.Qxb6602258aModsEsc
namespace Go.Proofs.Qxb6602258aMods
open Go.ChangeShapes Go.WideShapes Go.ChangeAt Go.RowKit
set_option linter.unusedVariables false

/-- One piece of n bytes stands at i. -/
def Chunk (f : Nat → Int) (i n : Nat) : Prop :=
  (n = 1 ∧ 32 ≤ f i ∧ f i ≠ 34 ∧ f i ≠ 92) ∨ (n = 2 ∧ f i = 92 ∧ short (f (i + 1))) ∨ (n = 6 ∧ f i = 92 ∧ f (i + 1) = 117 ∧ ∀ k, k < 4 → hexd (f (i + 1 + 1 + k)))
/-- m pieces lead from i to e. -/
def Chunks (f : Nat → Int) : Nat → Nat → Nat → Prop
  | 0, i, e => i = e
  | m + 1, i, e => ∃ n, Chunk f i n ∧ Chunks f m (i + n) e

theorem chunks_le {f : Nat → Int} : ∀ {m i e : Nat}, Chunks f m i e → i ≤ e
  | 0, i, e, h => Nat.le_of_eq h
  | m + 1, i, e, ⟨n, _, h⟩ => by have := chunks_le h; omega

theorem hex_cases {x : Int} (h : hexd x) : (48 ≤ x ∧ x ≤ 57) ∨ (97 ≤ x ∧ x ≤ 102) ∨ (65 ≤ x ∧ x ≤ 70) := h

set_option maxHeartbeats 4000000 in
set_option maxRecDepth 100000 in
theorem skip_any (b off len cap i0 e m0 : Nat) (f : Nat → Int) (w : World) (hlen : len ≤ 16777216) (hcap : len ≤ cap) (he : e < len) (hi0 : f i0 = 34) (hend : f e = 34) (hch : Chunks f m0 (i0 + 1) e)
    (hc : ∀ j, j < len → w.cell? ⟨b, off + j, none⟩ = some (.int .u8 (f j))) (hf : ∀ j, 0 ≤ f j ∧ f j ≤ 255) :
    Calls Trym.prog 28 #[.slice (some ⟨b, off, none⟩) len cap, .int .i64 (i0 : Int)] w fun en w' =>
      en = .returned (.tuple #[.int .i64 ((e : Int) + 1), .bool true]) ∧ w = w' := by
  have hle := chunks_le hch
  have HA := hide hc
  have HF := hide hf
  have HE := hide hend
  have HC := hide hch
  have e0 : ((i0 : Int) == (len : Int)) = false := by simp; omega
  have c0 : w.cell? ⟨b, off + i0, none⟩ = some (.int .u8 34) := by rw [← hi0]; exact hc i0 (by omega)
  clear hc hf hend hch hi0
  go_enter Trym.func28, Trym.ntmps28
  go_wp2
  clear c0 e0
  go_loop [1] (fun v => ∃ m i : Nat, v = .int .i64 i ∧ Chunks f m i e) (fun v => len - (intOf v).toNat)
  case atStart => exact ⟨m0, i0 + 1, by go_num, HC.out⟩
  case round =>
    obtain ⟨m, i, rfl, hch⟩ := hrel
    have hie := chunks_le hch
    have hil : i < len := by omega
    have d0 : decide ((i : Int) < (len : Int)) = true := by simp; omega
    cases m with
    | zero =>
      have hie' : i = e := hch
      subst hie'
      have c0 : w.cell? ⟨b, off + i, none⟩ = some (.int .u8 34) := by rw [← HE.out]; exact HA.out i hil
      clear hch
      go_wp2
      go_ret2
      exact ⟨rfl, rfl⟩
    | succ m =>
      obtain ⟨n, hck, hrest⟩ := hch
      have hrl := chunks_le hrest
      have HR := hide hrest
      clear hrest
      rcases hck with ⟨rfl, h32, h34, h92⟩ | ⟨rfl, h92, hs⟩ | ⟨rfl, h92, h117, hx⟩
      · obtain ⟨c, HX⟩ : ∃ c, Hid (c = f i) := ⟨_, rfl⟩
        rw [← HX.out] at h32 h34 h92
        have c0 : w.cell? ⟨b, off + i, none⟩ = some (.int .u8 c) := by rw [HX.out]; exact HA.out i hil
        have e1 : (c == 34) = false := by simpa using h34
        have e2 : (c == 92) = false := by simpa using h92
        have d1 : decide (c < 32) = false := by simp; omega
        clear h34 h92
        go_wp2
        go_round
        case rel => exact ⟨m, i + 1, by go_num, HR.out⟩
        case measure => simp [intOf]; omega
      · obtain ⟨d, HX⟩ : ∃ d, Hid (d = f (i + 1)) := ⟨_, rfl⟩
        rw [← HX.out] at hs
        have c0 : w.cell? ⟨b, off + i, none⟩ = some (.int .u8 92) := by rw [← h92]; exact HA.out i hil
        have c1 : w.cell? ⟨b, off + (i + 1), none⟩ = some (.int .u8 d) := by rw [HX.out]; exact HA.out (i + 1) (by omega)
        have e1 : ((i : Int) + 1 == (len : Int)) = false := by simp; omega
        have hil2 : i + 1 < len := by omega
        clear h92
        unfold short at hs
        rcases hs with rfl | rfl | rfl | rfl | rfl | rfl | rfl | rfl
        all_goals
          go_wp2
          go_round
          case rel => exact ⟨m, i + 2, by go_num, HR.out⟩
          case measure => simp [intOf]; omega
      · have c0 : w.cell? ⟨b, off + i, none⟩ = some (.int .u8 92) := by rw [← h92]; exact HA.out i hil
        have c1 : w.cell? ⟨b, off + (i + 1), none⟩ = some (.int .u8 117) := by rw [← h117]; exact HA.out (i + 1) (by omega)
        have e1 : ((i : Int) + 1 == (len : Int)) = false := by simp; omega
        have hil2 : i + 6 < len := by omega
        have HX := hide hx
        clear h92 h117 hx
        go_wp2
        go_loop [76] (fun t => ∃ k : Nat, k ≤ 4 ∧ t = .int .i64 k) (fun t => 4 - (intOf t).toNat)
        case atStart => exact ⟨0, by omega, rfl⟩
        case round =>
          obtain ⟨k, hk, rfl⟩ := hrel
          by_cases hk4 : k < 4
          · obtain ⟨x, HY⟩ : ∃ x, Hid (x = f (i + 1 + 1 + k)) := ⟨_, rfl⟩
            have hx : w.cell? ⟨b, off + (i + 1 + 1) + k, none⟩ = some (.int .u8 x) := by rw [HY.out, Nat.add_assoc off]; exact HA.out _ (by omega)
            rcases hex_cases (HY.out ▸ HX.out k hk4 : hexd x) with ⟨h, h'⟩ | ⟨h, h'⟩ | ⟨h, h'⟩
            · have d1 : decide ((48 : Int) ≤ x) = true := by simpa using h
              have d2 : decide (x ≤ (57 : Int)) = true := by simpa using h'
              go_wp2
              go_round
              case rel => exact ⟨k + 1, by omega, by go_num⟩
              case measure => simp [intOf]; omega
            · have d1 : decide ((48 : Int) ≤ x) = true := by simp; omega
              have d2 : decide (x ≤ (57 : Int)) = false := by simp; omega
              have d3 : decide ((97 : Int) ≤ x) = true := by simpa using h
              have d4 : decide (x ≤ (102 : Int)) = true := by simpa using h'
              go_wp2
              go_round
              case rel => exact ⟨k + 1, by omega, by go_num⟩
              case measure => simp [intOf]; omega
            · have d1 : decide ((48 : Int) ≤ x) = true := by simp; omega
              have d2 : decide (x ≤ (57 : Int)) = false := by simp; omega
              have d3 : decide ((97 : Int) ≤ x) = false := by simp; omega
              have d5 : decide ((65 : Int) ≤ x) = true := by simpa using h
              have d6 : decide (x ≤ (70 : Int)) = true := by simpa using h'
              go_wp2
              go_round
              case rel => exact ⟨k + 1, by omega, by go_num⟩
              case measure => simp [intOf]; omega
          · have : k = 4 := by omega
            subst this
            go_wp2
            go_round
            case rel => exact ⟨m, i + 6, by go_num, HR.out⟩
            case measure => simp [intOf]; omega
end Go.Proofs.Qxb6602258aMods
