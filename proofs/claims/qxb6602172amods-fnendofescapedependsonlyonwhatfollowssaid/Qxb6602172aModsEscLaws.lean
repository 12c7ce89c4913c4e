/-
  The two laws of 'endOfEscape': plain facts on 'Esc', and the walks of the law functions 4 and 5 where the data are there.
-/
import Derived.Test.Qxb6602172aModsEsc
namespace Go.Proofs.Qxb6602172aMods
open Go.ChangeShapes Go.WideShapes Go.ChangeAt Go.RowKit
set_option linter.unusedVariables false

theorem short_117 {c : Int} (h : c = 117) : ¬ short c := by unfold short; omega

/-- The answer at n is the answer at 0 of what follows, moved by n. -/
theorem esc_shift {f g : Nat → Int} {len n : Nat} {r s : Int} (hn : n < len) (hg : ∀ j, g j = f (n + j)) (h : Esc f len n r) (k : Esc g (len - n) 0 s) :
    (r = -1 ∧ s = -1) ∨ (r ≠ -1 ∧ s = r - n ∧ 0 ≤ r ∧ r ≤ n + 6) := by
  have e1 : g (0 + 1) = f (n + 1) := hg _
  have e2 : ∀ j, g (0 + 2 + j) = f (n + 2 + j) := fun j => by rw [hg]; congr 1; omega
  unfold Esc at h k
  rw [e1] at k
  simp only [e2] at k
  rcases h with ⟨_, h⟩ | ⟨a, b, h⟩ | ⟨a, b, c, h⟩ | ⟨a, b, c, d, h⟩ | ⟨a, b, c, d, h⟩ | ⟨a, b, c, h⟩ <;>
  rcases k with ⟨_, k⟩ | ⟨a', b', k⟩ | ⟨a', b', c', k⟩ | ⟨a', b', c', d', k⟩ | ⟨a', b', c', d', k⟩ | ⟨a', b', c', k⟩ <;>
  first
    | omega
    | (exact absurd ‹short _› (short_117 (by assumption)))
    | (exact absurd ‹short _› (by assumption))
    | (have hall : ∀ k, k < 4 → hexd (f (n + 2 + k)) := (by assumption); obtain ⟨j, hj, hx⟩ := ‹∃ k, _›; exact absurd (hall j hj) hx)

/-- A found escape ends at n + 2 or n + 6, inside; cut right behind it, it is found again. -/
theorem esc_cut {f : Nat → Int} {len n : Nat} {r : Int} (hn : n < len) (h : Esc f len n r) (hr : r ≠ -1) :
    (r = (n : Int) + 2 ∨ r = (n : Int) + 6) ∧ r ≤ len := by
  unfold Esc at h
  rcases h with ⟨_, h⟩ | ⟨a, b, h⟩ | ⟨a, b, c, h⟩ | ⟨a, b, c, d, h⟩ | ⟨a, b, c, d, h⟩ | ⟨a, b, c, h⟩ <;> omega

theorem esc_again {f : Nat → Int} {len n e : Nat} {s : Int} (hn : n < len) (h : Esc f len n (e : Int)) (k : Esc f e n s) : s = e := by
  unfold Esc at h k
  rcases h with ⟨_, h⟩ | ⟨a, b, h⟩ | ⟨a, b, c, h⟩ | ⟨a, b, c, d, h⟩ | ⟨a, b, c, d, h⟩ | ⟨a, b, c, h⟩ <;>
  rcases k with ⟨_, k⟩ | ⟨a', b', k⟩ | ⟨a', b', c', k⟩ | ⟨a', b', c', d', k⟩ | ⟨a', b', c', d', k⟩ | ⟨a', b', c', k⟩ <;>
  first
    | omega
    | (exact absurd ‹short _› (short_117 (by assumption)))
    | (exact absurd ‹short _› (by assumption))
    | (have hall : ∀ k, k < 4 → hexd (f (n + 2 + k)) := (by assumption); obtain ⟨j, hj, hx⟩ := ‹∃ k, _›; exact absurd (hall j hj) hx)

theorem esc_at (b off len cap i : Nat) (iz : Int) (hiz : iz = (i : Int)) (f : Nat → Int) (w : World) (hlen : len ≤ 1048576) (hcap : len ≤ cap) (hi : i < len)
    (hc : ∀ j, j < len → w.cell? ⟨b, off + j, none⟩ = some (.int .u8 (f j))) (hf : ∀ j, 0 ≤ f j ∧ f j ≤ 255) :
    Calls Trym.prog 22 #[.slice (some ⟨b, off, none⟩) len cap, .int .i64 iz] w fun e w' =>
      ∃ r, e = .returned (.int .i64 r) ∧ Esc f len i r ∧ w = w' := by
  subst hiz
  refine (esc_any b off len cap i f w hlen hcap hi hc hf).mono ?_
  rintro e w' ⟨r, h1, h2, h3⟩
  exact ⟨r, h1, h2, h3.symm⟩

set_option maxHeartbeats 400000 in
theorem depends_core (b off len cap n : Nat) (f : Nat → Int) (w : World) (hlen : len ≤ 1048576) (hn : n < len)
    (hc : ∀ j, j < len → w.cell? ⟨b, off + j, none⟩ = some (.int .u8 (f j))) (hf : ∀ j, 0 ≤ f j ∧ f j ≤ 255) :
    Calls Trym.prog 4 #[.slice (some ⟨b, off, none⟩) len cap, .int .i64 (n : Int)] w fun e w' => e = .returned (.bool true) ∧ Below w.heap.size w w' := by
  have hb : b < w.heap.size := World.block_lt_of_cell? _ _ (hc n hn)
  have HC := hide hc
  have HF := hide hf
  clear hc hf
  go_enter Trym.func4, Trym.ntmps4
  go_wp2_with (first | (go_at_call 10; go_in))
  refine (clone_any b off len cap f w hlen HC.out hb).mono ?_
  rintro e w1 ⟨rfl, hrow, hbel⟩
  have HB := hide hbel
  have hcells : Hid (∀ j, j < len → w1.cell? ⟨w.heap.size, j, none⟩ = some (.int .u8 (f j))) := fun j hj => hrow.cell hj
  clear hrow hbel
  go_wp2_with (first | (go_at_call 12; go_in))
  refine (esc_at w.heap.size 0 len len n n rfl f w1 hlen (Nat.le_refl _) hn (fun j hj => by rw [Nat.zero_add]; exact hcells.out j hj) HF.out).mono ?_
  rintro e w2 ⟨r, rfl, hE, rfl⟩
  have HE := hide hE
  clear hE
  go_wp2_with (first | (go_at_call 12; go_in))
  refine (esc_at w.heap.size n (len - n) (len - n) 0 0 rfl (fun j => f (n + j)) w1 (by omega) (Nat.le_refl _) (by omega) (fun j hj => hcells.out (n + j) (by omega)) (fun j => HF.out _)).mono ?_
  rintro e w2 ⟨s, rfl, hS, rfl⟩
  rcases esc_shift hn (fun _ => rfl) HE.out hS with ⟨rfl, rfl⟩ | ⟨h1, h2, h3, h4⟩
  · clear hS
    go_wp2
    go_ret
    exact ⟨rfl, HB.out⟩
  · clear hS
    have e1 : (r == -1) = false := by simpa using h1
    have e2 : (s == r - (n : Int)) = true := by simpa using h2
    clear h1 h2
    go_wp2
    go_ret
    exact ⟨rfl, HB.out⟩

set_option maxHeartbeats 400000 in
theorem contained_core (b off len cap n : Nat) (f : Nat → Int) (w : World) (hlen : len ≤ 1048576) (hn : n < len)
    (hc : ∀ j, j < len → w.cell? ⟨b, off + j, none⟩ = some (.int .u8 (f j))) (hf : ∀ j, 0 ≤ f j ∧ f j ≤ 255) :
    Calls Trym.prog 5 #[.slice (some ⟨b, off, none⟩) len cap, .int .i64 (n : Int)] w fun e w' => e = .returned (.bool true) ∧ Below w.heap.size w w' := by
  have hb : b < w.heap.size := World.block_lt_of_cell? _ _ (hc n hn)
  have HC := hide hc
  have HF := hide hf
  clear hc hf
  go_enter Trym.func5, Trym.ntmps5
  go_wp2_with (first | (go_at_call 13; go_in))
  refine (clone_any b off len cap f w hlen HC.out hb).mono ?_
  rintro e w1 ⟨rfl, hrow, hbel⟩
  have HB := hide hbel
  have hcells : Hid (∀ j, j < len → w1.cell? ⟨w.heap.size, j, none⟩ = some (.int .u8 (f j))) := fun j hj => hrow.cell hj
  clear hrow hbel
  go_wp2_with (first | (go_at_call 12; go_in))
  refine (esc_at w.heap.size 0 len len n n rfl f w1 hlen (Nat.le_refl _) hn (fun j hj => by rw [Nat.zero_add]; exact hcells.out j hj) HF.out).mono ?_
  rintro e w2 ⟨r, rfl, hE, rfl⟩
  by_cases hr : r = -1
  · subst hr
    clear hE
    go_wp2
    go_ret
    exact ⟨rfl, HB.out⟩
  obtain ⟨h26, hle⟩ := esc_cut hn hE hr
  obtain ⟨m, rfl⟩ := Int.eq_ofNat_of_zero_le (show 0 ≤ r by omega)
  have hnm : n < m := by omega
  have hml : m ≤ len := by omega
  have HE := hide hE
  have e1 : ((m : Int) == -1) = false := by simp
  have e2 : ((m : Int) != (n : Int) + 2 && (m : Int) != (n : Int) + 6) = false := by rcases h26 with h | h <;> simp [h]
  have H26 := hide h26
  clear hE hr hle h26
  by_cases h2 : (m : Int) = (n : Int) + 2
  · have e3 : ((m : Int) != (n : Int) + 2) = false := by simp [h2]
    clear h2 e2
    go_wp2_with (first | (go_at_call 12; go_in))
    refine (esc_at w.heap.size 0 m len n n rfl f w1 (by omega) hml hnm (fun j hj => by rw [Nat.zero_add]; exact hcells.out j (by omega)) HF.out).mono ?_
    rintro e w2 ⟨s, rfl, hS, rfl⟩
    obtain rfl := esc_again hn HE.out hS
    clear hS
    go_wp2
    go_ret
    exact ⟨by simp, HB.out⟩
  · have e3 : ((m : Int) != (n : Int) + 2) = true := by simp [h2]
    have e4 : ((m : Int) != (n : Int) + 6) = false := by rcases H26.out with h | h <;> simp_all
    clear h2 e2
    go_wp2_with (first | (go_at_call 12; go_in))
    refine (esc_at w.heap.size 0 m len n n rfl f w1 (by omega) hml hnm (fun j hj => by rw [Nat.zero_add]; exact hcells.out j (by omega)) HF.out).mono ?_
    rintro e w2 ⟨s, rfl, hS, rfl⟩
    obtain rfl := esc_again hn HE.out hS
    clear hS
    go_wp2
    go_ret
    exact ⟨by simp, HB.out⟩
end Go.Proofs.Qxb6602172aMods
