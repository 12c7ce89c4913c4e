/-
  'endOfNumber': cutting right behind a found number: plain facts on 'Num', and the walk of the law function 7.
-/
import Derived.Test.Qxb6602172aModsNum
namespace Go.Proofs.Qxb6602172aMods
open Go.ChangeShapes Go.WideShapes Go.ChangeAt Go.RowKit
set_option linter.unusedVariables false

theorem digs_cut {f : Nat → Int} {len i p e p' : Nat} (h : Digs f len i p) (hp : p ≤ e) (he : e ≤ len) (h' : Digs f e i p') : p' = p := by
  refine digs_unique h' ⟨h.1, hp, h.2.2.1, fun l => h.2.2.2 (by omega)⟩

theorem sg_unique {f : Nat → Int} {i s s' : Nat} (h : Sg f i s) (h' : Sg f i s') : s' = s := by
  unfold Sg at h h'; omega

theorem intP_cut {f : Nat → Int} {len s p e : Nat} {o : Option Nat} (h : IntP f len s (some p)) (hp : p ≤ e) (he : e ≤ len) (h' : IntP f e s o) : o = some p := by
  unfold IntP at h h'
  rcases h with ⟨_, h⟩ | ⟨a, b, h⟩ | ⟨a, b, c, p1, hd, h⟩ | ⟨_, _, h⟩
  · cases h
  · cases h
    rcases h' with ⟨_, k⟩ | ⟨a', b', k⟩ | ⟨a', b', c', p2, hd', k⟩ | ⟨a', b', k⟩
    · omega
    · exact k
    · omega
    · omega
  · cases h
    have := hd.1
    rcases h' with ⟨_, k⟩ | ⟨a', b', k⟩ | ⟨a', b', c', p2, hd', k⟩ | ⟨a', b', k⟩
    · omega
    · omega
    · rw [k, digs_cut hd hp he hd']
    · omega
  · cases h

theorem frac_cut {f : Nat → Int} {len p q e : Nat} {o : Option Nat} (h : Frac f len p (some q)) (hq : q ≤ e) (he : e ≤ len) (h' : Frac f e p o) : o = some q := by
  unfold Frac at h h'
  rcases h with ⟨a, h⟩ | ⟨a, b, q1, hd, ⟨_, h⟩ | ⟨c, h⟩⟩
  · cases h
    rcases h' with ⟨_, k⟩ | ⟨a', b', q2, hd', k⟩
    · exact k
    · exact absurd ⟨by omega, b'⟩ a
  · cases h
  · cases h
    rcases h' with ⟨a', k⟩ | ⟨a', b', q2, hd', ⟨c', k⟩ | ⟨c', k⟩⟩
    · exact absurd ⟨by omega, b⟩ a'
    · have := digs_cut hd hq he hd'; omega
    · rw [k, digs_cut hd hq he hd']

theorem esg_le {f : Nat → Int} {len t u : Nat} (h : Esg f len t u) : t ≤ u ∧ u ≤ t + 1 := by unfold Esg at h; omega

theorem esg_cut {f : Nat → Int} {len t u e u' : Nat} (h : Esg f len t u) (hu : u < e) (he : e ≤ len) (h' : Esg f e t u') : u' = u := by
  unfold Esg at h h'
  rcases h with ⟨⟨a, b⟩, h⟩ | ⟨a, h⟩ <;> rcases h' with ⟨⟨a', b'⟩, h'⟩ | ⟨a', h'⟩
  · omega
  · exact absurd ⟨by omega, b⟩ a'
  · exact absurd ⟨by omega, b'⟩ a
  · omega

theorem expo_cut {f : Nat → Int} {len q v e : Nat} {o : Option Nat} (h : Expo f len q (some v)) (hv : v = e) (he : e ≤ len) (h' : Expo f e q o) : o = some v := by
  unfold Expo at h h'
  rcases h with ⟨a, h⟩ | ⟨a, u, v1, hs, hd, ⟨_, h⟩ | ⟨c, h⟩⟩
  · cases h
    rcases h' with ⟨_, k⟩ | ⟨a', u', v2, hs', hd', k⟩
    · exact k
    · omega
  · cases h
  · cases h
    have l1 := esg_le hs
    rcases h' with ⟨a', k⟩ | ⟨a', u', v2, hs', hd', ⟨c', k⟩ | ⟨c', k⟩⟩
    · exact absurd ⟨by omega, a.2⟩ a'
    · have e1 := esg_cut hs (by omega) he hs'
      subst e1
      have := digs_cut hd (by omega) he hd'
      omega
    · have e1 := esg_cut hs (by omega) he hs'
      subst e1
      rw [k, digs_cut hd (by omega) he hd']

theorem intP_lt {f : Nat → Int} {len s p : Nat} (h : IntP f len s (some p)) : s < p := by
  unfold IntP at h
  rcases h with ⟨_, h⟩ | ⟨a, _, h⟩ | ⟨a, _, _, p', hd, h⟩ | ⟨_, _, h⟩
  · cases h
  · cases h; omega
  · cases h; exact hd.1
  · cases h
theorem frac_ge {f : Nat → Int} {len p q : Nat} (h : Frac f len p (some q)) : p ≤ q := by
  unfold Frac at h
  rcases h with ⟨_, h⟩ | ⟨a, _, q', hd, ⟨_, h⟩ | ⟨_, h⟩⟩
  · cases h; omega
  · cases h
  · cases h; omega
theorem expo_ge {f : Nat → Int} {len q v : Nat} (hq : q ≤ len) (h : Expo f len q (some v)) : q ≤ v ∧ v ≤ len := by
  unfold Expo at h
  rcases h with ⟨a, h⟩ | ⟨a, u, v1, hs, hd, ⟨_, h⟩ | ⟨c, h⟩⟩
  · cases h; omega
  · cases h
  · cases h
    have := esg_le hs
    exact ⟨by omega, hd.2.1⟩

/-- A found number is not empty and ends inside. -/
theorem num_in {f : Nat → Int} {len i : Nat} {r : Int} (h : Num f len i r) (hr : r ≠ -1) : (i : Int) < r ∧ r ≤ len := by
  obtain ⟨s, hs, ⟨_, e⟩ | ⟨p, hp, ⟨_, e⟩ | ⟨q, hq, ⟨_, e⟩ | ⟨v, hv, e⟩⟩⟩⟩ := h
  · exact absurd e hr
  · exact absurd e hr
  · exact absurd e hr
  · have h1 := intP_lt hp
    have h2 := frac_ge hq
    have h3 := expo_ge (frac_le (intP_le hp) hq) hv
    unfold Sg at hs
    omega

/-- Cut right behind it, it is found again. -/
theorem num_again {f : Nat → Int} {len i e : Nat} {t : Int} (h : Num f len i (e : Int)) (k : Num f e i t) : t = e := by
  obtain ⟨s, hs, ⟨_, x⟩ | ⟨p, hp, ⟨_, x⟩ | ⟨q, hq, ⟨_, x⟩ | ⟨v, hv, x⟩⟩⟩⟩ := h
  · omega
  · omega
  · omega
  · have x' : e = v := by omega
    have h2 := frac_ge hq
    have h3 := expo_ge (frac_le (intP_le hp) hq) hv
    obtain ⟨s', hs', k⟩ := k
    rw [sg_unique hs hs'] at k
    have ip : ∀ o, IntP f e s o → o = some p := fun o ho => intP_cut hp (by omega) (by omega) ho
    have fp : ∀ o, Frac f e p o → o = some q := fun o ho => frac_cut hq (by omega) (by omega) ho
    have ep : ∀ o, Expo f e q o → o = some v := fun o ho => expo_cut hv (by omega) (by omega) ho
    rcases k with ⟨k, _⟩ | ⟨p', k, k'⟩
    · exact absurd (ip _ k) (by simp)
    · obtain rfl : p' = p := by simpa using ip _ k
      rcases k' with ⟨k, _⟩ | ⟨q', k, k'⟩
      · exact absurd (fp _ k) (by simp)
      · obtain rfl : q' = q := by simpa using fp _ k
        rcases k' with ⟨k, _⟩ | ⟨v', k, k'⟩
        · exact absurd (ep _ k) (by simp)
        · obtain rfl : v' = v := by simpa using ep _ k
          omega

theorem number_at (b off len cap i : Nat) (iz : Int) (hiz : iz = (i : Int)) (f : Nat → Int) (w : World) (hlen : len ≤ 2097152) (hi : i < len)
    (hc : ∀ j, j < len → w.cell? ⟨b, off + j, none⟩ = some (.int .u8 (f j))) (hf : ∀ j, 0 ≤ f j ∧ f j ≤ 255) :
    Calls Trym.prog 23 #[.slice (some ⟨b, off, none⟩) len cap, .int .i64 iz] w fun e w' =>
      ∃ r : Int, e = .returned (.int .i64 r) ∧ Num f len i r ∧ w = w' := by
  subst hiz
  exact number_any b off len cap i f w hlen hi hc hf

set_option maxHeartbeats 400000 in
theorem selfnum_core (b off len cap n : Nat) (f : Nat → Int) (w : World) (hlen : len ≤ 1048576) (hn : n < len)
    (hc : ∀ j, j < len → w.cell? ⟨b, off + j, none⟩ = some (.int .u8 (f j))) (hf : ∀ j, 0 ≤ f j ∧ f j ≤ 255) :
    Calls Trym.prog 7 #[.slice (some ⟨b, off, none⟩) len cap, .int .i64 (n : Int)] w fun e w' => e = .returned (.bool true) ∧ Below w.heap.size w w' := by
  have hb : b < w.heap.size := World.block_lt_of_cell? _ _ (hc n hn)
  have HC := hide hc
  have HF := hide hf
  clear hc hf
  go_enter Trym.func7, Trym.ntmps7
  go_wp2_with (first | (go_at_call 17; go_in))
  refine (clone_any b off len cap f w hlen HC.out hb).mono ?_
  rintro e w1 ⟨rfl, hrow, hbel⟩
  have HB := hide hbel
  have hcells : Hid (∀ j, j < len → w1.cell? ⟨w.heap.size, j, none⟩ = some (.int .u8 (f j))) := fun j hj => hrow.cell hj
  clear hrow hbel
  go_wp2_with (first | (go_at_call 15; go_in))
  refine (number_at w.heap.size 0 len len n n rfl f w1 (by omega) hn (fun j hj => by rw [Nat.zero_add]; exact hcells.out j hj) HF.out).mono ?_
  rintro e w2 ⟨r, rfl, hE, rfl⟩
  by_cases hr : r = -1
  · subst hr
    clear hE
    go_wp2
    go_ret
    exact ⟨rfl, HB.out⟩
  obtain ⟨h26, hle⟩ := num_in hE hr
  obtain ⟨m, rfl⟩ := Int.eq_ofNat_of_zero_le (show 0 ≤ r by omega)
  have hnm : n < m := by omega
  have hml : m ≤ len := by omega
  have HE := hide hE
  have e1 : ((m : Int) == -1) = false := by simp
  have d1 : decide ((m : Int) ≤ (n : Int)) = false := by simp; omega
  have d2 : decide ((len : Int) < (m : Int)) = false := by simp; omega
  clear hE hr hle h26
  go_wp2_with (first | (go_at_call 15; go_in))
  refine (number_at w.heap.size 0 m len n n rfl f w1 (by omega) hnm (fun j hj => by rw [Nat.zero_add]; exact hcells.out j (by omega)) HF.out).mono ?_
  rintro e w2 ⟨s, rfl, hS, rfl⟩
  obtain rfl := num_again HE.out hS
  clear hS
  go_wp2
  go_ret
  exact ⟨by simp, HB.out⟩
end Go.Proofs.Qxb6602172aMods
