/-
  The automaton answers what 'Num' says: plain facts; and the walks of 'modelEndOfNumber' (16) and of the law function 6.
-/
import Derived.Test.Qxb6602172aModsAuto
import Derived.Test.Qxb6602172aModsNumLaws
namespace Go.Proofs.Qxb6602172aMods
open Go.ChangeShapes Go.WideShapes Go.ChangeAt Go.RowKit
set_option linter.unusedVariables false

def ans (s j : Nat) : Int := if acc s then (j : Int) else -1
/-- The automaton's run: fuel, state, place. -/
def aut (f : Nat → Int) : Nat → Nat → Nat → Int
  | 0, s, j => ans s j
  | n + 1, s, j => if stp s (f j) < 0 then ans s j else aut f n (stp s (f j)).toNat (j + 1)

theorem aut_end {f : Nat → Int} {len s j : Nat} (h : j = len) : aut f (len - j) s j = ans s j := by
  rw [show len - j = 0 by omega]; rfl
theorem aut_stop {f : Nat → Int} {len s j : Nat} (h : j < len) (hs : stp s (f j) < 0) : aut f (len - j) s j = ans s j := by
  obtain ⟨n, hn⟩ : ∃ n, len - j = n + 1 := ⟨len - j - 1, by omega⟩
  rw [hn]; simp [aut, hs]
theorem aut_step {f : Nat → Int} {len s j t : Nat} (h : j < len) (hs : stp s (f j) = (t : Int)) : aut f (len - j) s j = aut f (len - (j + 1)) t (j + 1) := by
  obtain ⟨n, hn⟩ : ∃ n, len - j = n + 1 := ⟨len - j - 1, by omega⟩
  rw [hn, show len - (j + 1) = n by omega]
  simp [aut, hs, show ¬ ((t : Int) < 0) by omega]

theorem dig_iff {c : Int} : dig c = true ↔ digit c := by simp [dig, digit]
theorem dig_no {c : Int} (h : ¬ digit c) : dig c = false := by
  cases e : dig c
  · rfl
  · exact absurd (dig_iff.1 e) h

theorem aut_digs {f : Nat → Int} {len s : Nat} (hs : s = 3 ∨ s = 5 ∨ s = 8) : ∀ (n j e : Nat), e - j = n → Digs f len j e → aut f (len - j) s j = aut f (len - e) s e := by
  intro n
  induction n with
  | zero =>
    intro j e hn h
    have : j = e := by have := h.1; omega
    rw [this]
  | succ n ih =>
    intro j e hn h
    have hd : dig (f j) = true := dig_iff.2 (h.2.2.1 j (Nat.le_refl _) (by omega))
    have hl := h.2.1
    have hst : stp s (f j) = (s : Int) := by rcases hs with rfl | rfl | rfl <;> simp [stp, hd]
    rw [aut_step (by omega) hst]
    exact ih (j + 1) e (by omega) ⟨by omega, hl, fun k a b => h.2.2.1 k (by omega) b, h.2.2.2⟩

/-- Behind the last digit of the exponent. -/
theorem aut_tail8 {f : Nat → Int} {len u v : Nat} (h : Digs f len u v) : aut f (len - u) 8 u = (v : Int) := by
  rw [aut_digs (.inr (.inr rfl)) _ u v rfl h]
  by_cases e : v = len
  · rw [aut_end e]; rfl
  · have := h.2.1
    rw [aut_stop (by omega) (by simp [stp, dig_no (h.2.2.2 (by omega))])]; rfl

theorem digs_tail {f : Nat → Int} {len u v : Nat} (h : Digs f len u v) (l : u < v) : Digs f len (u + 1) v :=
  ⟨l, h.2.1, fun k a b => h.2.2.1 k (by omega) b, h.2.2.2⟩

theorem aut_exp {f : Nat → Int} {len q s : Nat} {r : Int} (hq : q ≤ len) (hs : (s = 2 ∧ (q < len → f q ≠ 46)) ∨ (s = 3 ∧ (q < len → f q ≠ 46 ∧ ¬ digit (f q))) ∨ (s = 5 ∧ (q < len → ¬ digit (f q))))
    (h : (Expo f len q none ∧ r = -1) ∨ ∃ v, Expo f len q (some v) ∧ r = (v : Int)) : aut f (len - q) s q = r := by
  have key : (¬ (q < len ∧ (f q = 101 ∨ f q = 69)) ∧ r = (q : Int)) ∨ ((q < len ∧ (f q = 101 ∨ f q = 69)) ∧ ∃ u v, Esg f len (q + 1) u ∧ Digs f len u v ∧ ((v = u ∧ r = -1) ∨ (u < v ∧ r = (v : Int)))) := by
    unfold Expo at h
    rcases h with ⟨⟨_, h⟩ | ⟨a, u, v, h1, h2, ⟨h3, _⟩ | ⟨_, h⟩⟩, hr⟩ | ⟨v, ⟨a, h⟩ | ⟨a, u, v', h1, h2, ⟨_, h⟩ | ⟨h3, h⟩⟩, hr⟩
    · cases h
    · exact .inr ⟨a, u, v, h1, h2, .inl ⟨h3, hr⟩⟩
    · cases h
    · cases h; exact .inl ⟨a, hr⟩
    · cases h
    · cases h; exact .inr ⟨a, u, v, h1, h2, .inr ⟨h3, hr⟩⟩
  clear h
  rcases key with ⟨a, rfl⟩ | ⟨⟨hlt, he⟩, u, v, hu, hd, hr⟩
  · have ha : ans s q = (q : Int) := by rcases hs with ⟨rfl, _⟩ | ⟨rfl, _⟩ | ⟨rfl, _⟩ <;> rfl
    by_cases e : q = len
    · rw [aut_end e, ha]
    · have hlt : q < len := by omega
      have hne : ¬ (f q = 101 ∨ f q = 69) := fun h => a ⟨hlt, h⟩
      have : stp s (f q) < 0 := by
        rcases hs with ⟨rfl, h⟩ | ⟨rfl, h⟩ | ⟨rfl, h⟩
        · simp [stp, h hlt, hne]
        · simp [stp, (h hlt).1, dig_no (h hlt).2, hne]
        · simp [stp, dig_no (h hlt), hne]
      rw [aut_stop hlt this, ha]
  · have h6 : stp s (f q) = ((6 : Nat) : Int) := by
      have nd : dig (f q) = false := dig_no (by unfold digit; omega)
      have n46 : f q ≠ 46 := by omega
      rcases hs with ⟨rfl, h⟩ | ⟨rfl, h⟩ | ⟨rfl, h⟩ <;> simp [stp, n46, he, nd]
    rw [aut_step hlt h6]
    have tail : ∀ t, (t = 6 ∨ t = 7) → (t = 6 → u < len → f u ≠ 43 ∧ f u ≠ 45) → aut f (len - u) t u = r := by
      intro t ht hpm
      rcases hr with ⟨e, rfl⟩ | ⟨l, rfl⟩
      · subst e
        have ha : ans t v = -1 := by rcases ht with rfl | rfl <;> rfl
        by_cases e : v = len
        · rw [aut_end e, ha]
        · have := hd.2.1
          have hv : v < len := by omega
          have nd := dig_no (hd.2.2.2 hv)
          rw [aut_stop hv, ha]
          rcases ht with rfl | rfl
          · have := hpm rfl hv; simp [stp, nd, this.1, this.2]
          · simp [stp, nd]
      · have hl := hd.2.1
        have dd : digit (f u) := hd.2.2.1 u (Nat.le_refl _) l
        have dg : dig (f u) = true := dig_iff.2 dd
        have npm : ¬ (f u = 43 ∨ f u = 45) := by unfold digit at dd; omega
        have h8 : stp t (f u) = ((8 : Nat) : Int) := by rcases ht with rfl | rfl <;> simp [stp, dg, npm]
        rw [aut_step (by omega) h8]
        exact aut_tail8 (digs_tail hd l)
    unfold Esg at hu
    rcases hu with ⟨⟨a, b⟩, rfl⟩ | ⟨a, rfl⟩
    · have h7 : stp 6 (f (q + 1)) = ((7 : Nat) : Int) := by simp [stp, b]
      rw [aut_step a h7]
      exact tail 7 (.inr rfl) (fun h => by omega)
    · exact tail 6 (.inl rfl) (fun _ hl => by
        have : ¬ (f (q + 1) = 43 ∨ f (q + 1) = 45) := fun h => a ⟨hl, h⟩
        omega)

theorem aut_frac {f : Nat → Int} {len p s : Nat} {r : Int} (hp : p ≤ len) (hs : s = 2 ∨ (s = 3 ∧ (p < len → ¬ digit (f p))))
    (h : (Frac f len p none ∧ r = -1) ∨ ∃ q, Frac f len p (some q) ∧ ((Expo f len q none ∧ r = -1) ∨ ∃ v, Expo f len q (some v) ∧ r = (v : Int))) : aut f (len - p) s p = r := by
  by_cases hd : p < len ∧ f p = 46
  · obtain ⟨hlt, h46⟩ := hd
    have h4 : stp s (f p) = ((4 : Nat) : Int) := by rcases hs with rfl | ⟨rfl, _⟩ <;> simp [stp, h46, dig]
    rw [aut_step hlt h4]
    rcases h with ⟨h, rfl⟩ | ⟨q, h, hr⟩
    · unfold Frac at h
      rcases h with ⟨_, h⟩ | ⟨_, _, q, hdg, ⟨e, _⟩ | ⟨_, h⟩⟩
      · cases h
      · subst e
        by_cases e : p + 1 = len
        · rw [aut_end e]; rfl
        · rw [aut_stop (by omega) (by simp [stp, dig_no (hdg.2.2.2 (by omega))])]; rfl
      · cases h
    · have hq := frac_le hp h
      unfold Frac at h
      rcases h with ⟨a, _⟩ | ⟨_, _, q', hdg, ⟨_, h⟩ | ⟨l, h⟩⟩
      · exact absurd ⟨hlt, h46⟩ a
      · cases h
      · cases h
        have dg : dig (f (p + 1)) = true := dig_iff.2 (hdg.2.2.1 _ (Nat.le_refl _) l)
        have h5 : stp 4 (f (p + 1)) = ((5 : Nat) : Int) := by simp [stp, dg]
        rw [aut_step (by omega) h5, aut_digs (.inr (.inl rfl)) _ _ _ rfl (digs_tail hdg l)]
        exact aut_exp hq (.inr (.inr ⟨rfl, hdg.2.2.2⟩)) hr
  · have hn : ∀ o, Frac f len p o → o = some p := by
      intro o h
      unfold Frac at h
      rcases h with ⟨_, h⟩ | ⟨a, b, _⟩
      · exact h
      · exact absurd ⟨a, b⟩ hd
    rcases h with ⟨h, _⟩ | ⟨q, h, hr⟩
    · exact absurd (hn _ h) (by simp)
    · obtain rfl : q = p := by simpa using hn _ h
      refine aut_exp hp ?_ hr
      rcases hs with rfl | ⟨rfl, h3⟩
      · exact .inl ⟨rfl, fun l e => hd ⟨l, e⟩⟩
      · exact .inr (.inl ⟨rfl, fun l => ⟨fun e => hd ⟨l, e⟩, h3 l⟩⟩)

theorem aut_num {f : Nat → Int} {len i : Nat} {r : Int} (hi : i < len) (h : Num f len i r) : aut f (len - i) 0 i = r := by
  obtain ⟨s, hs, h⟩ := h
  have main : ∀ t, (t = 0 ∨ t = 1) → (t = 0 → f s ≠ 45) → s ≤ len → aut f (len - s) t s = r := by
    intro t ht h45 hsl
    rcases h with ⟨h, rfl⟩ | ⟨p, h, hr⟩
    · have ha : ans t s = -1 := by rcases ht with rfl | rfl <;> rfl
      unfold IntP at h
      rcases h with ⟨e, _⟩ | ⟨_, _, h⟩ | ⟨_, _, _, _, _, h⟩ | ⟨hl, a, _⟩
      · rw [aut_end e, ha]
      · cases h
      · cases h
      · have nd : dig (f s) = false := dig_no (by unfold digit; omega)
        have n48 : f s ≠ 48 := by omega
        rw [aut_stop hl, ha]
        rcases ht with rfl | rfl
        · simp [stp, h45 rfl, n48, nd]
        · simp [stp, n48, nd]
    · have hp := intP_le h
      unfold IntP at h
      rcases h with ⟨_, h⟩ | ⟨hl, h48, h⟩ | ⟨hl, a, b, p', hd, h⟩ | ⟨_, _, h⟩
      · cases h
      · cases h
        have h2 : stp t (f s) = ((2 : Nat) : Int) := by rcases ht with rfl | rfl <;> simp [stp, h48]
        rw [aut_step hl h2]
        exact aut_frac hp (.inl rfl) hr
      · cases h
        have dg : dig (f s) = true := dig_iff.2 ⟨by omega, b⟩
        have n48 : f s ≠ 48 := by omega
        have n45 : f s ≠ 45 := by omega
        have h3 : stp t (f s) = ((3 : Nat) : Int) := by rcases ht with rfl | rfl <;> simp [stp, n48, n45, dg]
        rw [aut_step hl h3, aut_digs (.inl rfl) _ _ _ rfl hd]
        exact aut_frac hp (.inr ⟨rfl, hd.2.2.2⟩) hr
      · cases h
  unfold Sg at hs
  rcases hs with ⟨a, rfl⟩ | ⟨a, rfl⟩
  · have h1 : stp 0 (f i) = ((1 : Nat) : Int) := by simp [stp, a]
    rw [aut_step hi h1]
    exact main 1 (.inr rfl) (fun h => by omega) (by omega)
  · exact main 0 (.inl rfl) (fun _ => a) (by omega)

theorem aut_stays {f : Nat → Int} {len s j : Nat} {t : Int} (h : j < len) (ht : stp s (f j) = t) (h0 : 0 ≤ t) : aut f (len - (j + 1)) t.toNat (j + 1) = aut f (len - j) s j :=
  (aut_step h (by omega)).symm

set_option maxHeartbeats 1000000 in
theorem model_any (b off len cap i : Nat) (f : Nat → Int) (w : World) (hlen : len ≤ 1048576) (hi : i < len)
    (hc : ∀ j, j < len → w.cell? ⟨b, off + j, none⟩ = some (.int .u8 (f j))) (hf : ∀ j, 0 ≤ f j ∧ f j ≤ 255) :
    Calls Trym.prog 16 #[.slice (some ⟨b, off, none⟩) len cap, .int .i64 (i : Int)] w fun e w' =>
      e = .returned (.int .i64 (aut f (len - i) 0 i)) ∧ w = w' := by
  have HA := hide hc
  have HF := hide hf
  clear hc hf
  go_enter Trym.func16, Trym.ntmps16
  go_wp2
  go_loop [5, 6] (fun v5 v6 => ∃ s j : Nat, s ≤ 8 ∧ j ≤ len ∧ v5 = .int .i64 s ∧ v6 = .int .i64 j ∧ aut f (len - j) s j = aut f (len - i) 0 i) (fun _ v6 => len - (intOf v6).toNat)
  case atStart => exact ⟨0, i, by omega, by omega, rfl, rfl, rfl⟩
  case round =>
    obtain ⟨s, j, hs, hj, rfl, rfl, hE⟩ := hrel
    have HE := hide hE
    clear hE
    by_cases hlt : j < len
    · have d0 : decide ((j : Int) < (len : Int)) = true := by simp; omega
      obtain ⟨x, HX⟩ : ∃ x, Hid (x = f j) := ⟨_, rfl⟩
      have hxb : 0 ≤ x ∧ x ≤ 255 := by rw [HX.out]; exact HF.out _
      have hx : w.cell? ⟨b, off + j, none⟩ = some (.int .u8 x) := by rw [HX.out]; exact HA.out _ hlt
      go_wp2_with fail
      refine (step_any s hs x hxb w).mono ?_
      rintro e w2 ⟨rfl, rfl⟩
      have hr := stp_range s x
      generalize hT : stp s x = t at hr
      have HT : Hid (stp s (f j) = t) := by unfold Hid; rw [← HX.out]; exact hT
      clear hT
      by_cases h0 : t < 0
      · have d1 : decide (t < 0) = true := by simpa using h0
        have HF2 : Hid (ans s j = aut f (len - i) 0 i) := by unfold Hid; rw [← HE.out, aut_stop hlt (by rw [HT.out]; exact h0)]
        go_wp2_with fail
        refine (acc_any s hs w).mono ?_
        rintro e w2 ⟨rfl, rfl⟩
        generalize hA : acc s = a
        have HF3 : Hid (aut f (len - i) 0 i = if a then (j : Int) else -1) := by unfold Hid; rw [← HF2.out, ← hA]; rfl
        clear hA
        cases a
        · go_wp2
          go_ret
          exact ⟨ret_int (by rw [HF3.out]; rfl), rfl⟩
        · go_wp2
          go_ret
          exact ⟨ret_int (by rw [HF3.out]; rfl), rfl⟩
      · have d1 : decide (t < 0) = false := by simpa using h0
        obtain ⟨m, rfl⟩ := Int.eq_ofNat_of_zero_le (show 0 ≤ t by omega)
        have HN : Hid (aut f (len - (j + 1)) m (j + 1) = aut f (len - i) 0 i) := by unfold Hid; rw [← HE.out]; exact aut_stays hlt HT.out (by omega)
        have hm8 : m ≤ 8 := by omega
        clear hr
        go_wp2
        go_round
        case rel => exact ⟨m, j + 1, hm8, by omega, rfl, by go_num, HN.out⟩
        case measure => simp [intOf]; omega
    · have d0 : decide ((j : Int) < (len : Int)) = false := by simp; omega
      have HF2 : Hid (ans s j = aut f (len - i) 0 i) := by unfold Hid; rw [← HE.out, aut_end (by omega)]
      go_wp2_with fail
      refine (acc_any s hs w).mono ?_
      rintro e w2 ⟨rfl, rfl⟩
      generalize hA : acc s = a
      have HF3 : Hid (aut f (len - i) 0 i = if a then (j : Int) else -1) := by unfold Hid; rw [← HF2.out, ← hA]; rfl
      clear hA
      cases a
      · go_wp2
        go_ret
        exact ⟨ret_int (by rw [HF3.out]; rfl), rfl⟩
      · go_wp2
        go_ret
        exact ⟨ret_int (by rw [HF3.out]; rfl), rfl⟩

set_option maxHeartbeats 400000 in
theorem auto_core (b off len cap n : Nat) (f : Nat → Int) (w : World) (hlen : len ≤ 1048576) (hn : n < len)
    (hc : ∀ j, j < len → w.cell? ⟨b, off + j, none⟩ = some (.int .u8 (f j))) (hf : ∀ j, 0 ≤ f j ∧ f j ≤ 255) :
    Calls Trym.prog 6 #[.slice (some ⟨b, off, none⟩) len cap, .int .i64 (n : Int)] w fun e w' => e = .returned (.bool true) ∧ Below w.heap.size w w' := by
  have hb : b < w.heap.size := World.block_lt_of_cell? _ _ (hc n hn)
  have HC := hide hc
  have HF := hide hf
  clear hc hf
  go_enter Trym.func6, Trym.ntmps6
  go_wp2_with (first | (go_at_call 14; go_in))
  refine (clone_any b off len cap f w hlen HC.out hb).mono ?_
  rintro e w1 ⟨rfl, hrow, hbel⟩
  have HB := hide hbel
  have hcells : Hid (∀ j, j < len → w1.cell? ⟨w.heap.size, j, none⟩ = some (.int .u8 (f j))) := fun j hj => hrow.cell hj
  clear hrow hbel
  go_wp2_with (first | (go_at_call 15; go_in))
  refine (number_at w.heap.size 0 len len n n rfl f w1 (by omega) hn (fun j hj => by rw [Nat.zero_add]; exact hcells.out j hj) HF.out).mono ?_
  rintro e w2 ⟨r, rfl, hE, rfl⟩
  have hA := aut_num hn hE
  have HA := hide hA
  clear hA hE
  go_wp2_with fail
  refine (model_any w.heap.size 0 len len n f w1 hlen hn (fun j hj => by rw [Nat.zero_add]; exact hcells.out j hj) HF.out).mono ?_
  rintro e w2 ⟨rfl, rfl⟩
  rw [HA.out]
  go_wp2
  go_ret
  exact ⟨by simp, HB.out⟩
end Go.Proofs.Qxb6602172aMods
