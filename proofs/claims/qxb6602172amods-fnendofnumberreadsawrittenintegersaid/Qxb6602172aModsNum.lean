/-
  'endOfDigits' (function 27) and 'endOfNumber' (functions 15, 23): what they compute, as plain facts, and their walks.
-/
import Derived.Test.Qxb6602172aModsClone
import Derived.Deep.DeepCutAuto
import Derived.Deep.CutBlock
namespace Go.Proofs.Qxb6602172aMods
open Go.ChangeShapes Go.WideShapes Go.ChangeAt Go.RowKit
set_option linter.unusedVariables false

def digit (c : Int) : Prop := 48 ≤ c ∧ c ≤ 57

/-- Digits from i up to e, and none at e (or the end). -/
def Digs (f : Nat → Int) (len i e : Nat) : Prop := i ≤ e ∧ e ≤ len ∧ (∀ j, i ≤ j → j < e → digit (f j)) ∧ (e < len → ¬ digit (f e))

theorem digs_unique {f : Nat → Int} {len i e e' : Nat} (h : Digs f len i e) (h' : Digs f len i e') : e = e' := by
  obtain ⟨a, b, c, d⟩ := h
  obtain ⟨a', b', c', d'⟩ := h'
  rcases Nat.lt_trichotomy e e' with l | l | l
  · exact absurd (c' e a l) (d (by omega))
  · exact l
  · exact absurd (c e' a' l) (d' (by omega))

set_option maxHeartbeats 400000 in
theorem digits_any (b off len cap i : Nat) (f : Nat → Int) (w : World) (hlen : len ≤ 2097152) (hi : i ≤ len)
    (hc : ∀ j, j < len → w.cell? ⟨b, off + j, none⟩ = some (.int .u8 (f j))) (hf : ∀ j, 0 ≤ f j ∧ f j ≤ 255) :
    Calls Trym.prog 27 #[.slice (some ⟨b, off, none⟩) len cap, .int .i64 (i : Int)] w fun e w' =>
      ∃ r : Nat, e = .returned (.int .i64 (r : Int)) ∧ Digs f len i r ∧ w = w' := by
  have HA := hide hc
  have HF := hide hf
  clear hc hf
  go_enter Trym.func27, Trym.ntmps27
  go_wp2
  go_loop [1] (fun t => ∃ k : Nat, i ≤ k ∧ k ≤ len ∧ t = .int .i64 k ∧ ∀ j, i ≤ j → j < k → digit (f j)) (fun t => len - (intOf t).toNat)
  case atStart => exact ⟨i, Nat.le_refl _, hi, rfl, fun j h1 h2 => by omega⟩
  case round =>
    obtain ⟨k, hk1, hk, rfl, hall⟩ := hrel
    have HH := hide hall
    clear hall
    by_cases hlt : k < len
    · have d0 : decide ((k : Int) < (len : Int)) = true := by simp; omega
      obtain ⟨x, HX⟩ : ∃ x, Hid (x = f k) := ⟨_, rfl⟩
      have hxb : 0 ≤ x ∧ x ≤ 255 := by rw [HX.out]; exact HF.out _
      have hx : w.cell? ⟨b, off + k, none⟩ = some (.int .u8 x) := by rw [HX.out]; exact HA.out _ hlt
      by_cases h1 : 48 ≤ x
      · have d1 : decide ((48 : Int) ≤ x) = true := by simpa using h1
        by_cases h2 : x ≤ 57
        · have d2 : decide (x ≤ (57 : Int)) = true := by simpa using h2
          go_wp2
          go_round
          case rel => exact ⟨k + 1, by omega, by omega, by go_num, fun j a b => by
            by_cases e : j = k
            · subst e; exact ⟨HX.out ▸ h1, HX.out ▸ h2⟩
            · exact HH.out j a (by omega)⟩
          case measure => simp [intOf]; omega
        · have d2 : decide (x ≤ (57 : Int)) = false := by simpa using h2
          have HN : Hid (¬ digit (f k)) := fun h => h2 (HX.out ▸ h.2)
          go_wp2
          go_ret
          exact ⟨k, rfl, ⟨hk1, hk, HH.out, fun _ => HN.out⟩, rfl⟩
      · have d1 : decide ((48 : Int) ≤ x) = false := by simpa using h1
        have HN : Hid (¬ digit (f k)) := fun h => h1 (HX.out ▸ h.1)
        go_wp2
        go_ret
        exact ⟨k, rfl, ⟨hk1, hk, HH.out, fun _ => HN.out⟩, rfl⟩
    · have d0 : decide ((k : Int) < (len : Int)) = false := by simp; omega
      go_wp2
      go_ret
      exact ⟨k, rfl, ⟨hk1, hk, HH.out, fun h => absurd h hlt⟩, rfl⟩

theorem digits_at (b off len cap i : Nat) (iz : Int) (hiz : iz = (i : Int)) (f : Nat → Int) (w : World) (hlen : len ≤ 2097152) (hi : i ≤ len)
    (hc : ∀ j, j < len → w.cell? ⟨b, off + j, none⟩ = some (.int .u8 (f j))) (hf : ∀ j, 0 ≤ f j ∧ f j ≤ 255) :
    Calls Trym.prog 27 #[.slice (some ⟨b, off, none⟩) len cap, .int .i64 iz] w fun e w' =>
      ∃ r : Nat, e = .returned (.int .i64 (r : Int)) ∧ Digs f len i r ∧ w = w' := by
  subst hiz
  exact digits_any b off len cap i f w hlen hi hc hf

/-- Behind the sign. -/
def Sg (f : Nat → Int) (i s : Nat) : Prop := (f i = 45 ∧ s = i + 1) ∨ (f i ≠ 45 ∧ s = i)
/-- The integer part from s: where it ends. -/
def IntP (f : Nat → Int) (len s : Nat) (o : Option Nat) : Prop :=
  (s = len ∧ o = none) ∨ (s < len ∧ f s = 48 ∧ o = some (s + 1)) ∨ (s < len ∧ 49 ≤ f s ∧ f s ≤ 57 ∧ ∃ p, Digs f len (s + 1) p ∧ o = some p) ∨ (s < len ∧ (f s < 48 ∨ 57 < f s) ∧ o = none)
/-- The fraction from p. -/
def Frac (f : Nat → Int) (len p : Nat) (o : Option Nat) : Prop :=
  (¬ (p < len ∧ f p = 46) ∧ o = some p) ∨ (p < len ∧ f p = 46 ∧ ∃ q, Digs f len (p + 1) q ∧ ((q = p + 1 ∧ o = none) ∨ (p + 1 < q ∧ o = some q)))
/-- Behind the exponent's sign. -/
def Esg (f : Nat → Int) (len t u : Nat) : Prop := ((t < len ∧ (f t = 43 ∨ f t = 45)) ∧ u = t + 1) ∨ (¬ (t < len ∧ (f t = 43 ∨ f t = 45)) ∧ u = t)
/-- The exponent from q. -/
def Expo (f : Nat → Int) (len q : Nat) (o : Option Nat) : Prop :=
  (¬ (q < len ∧ (f q = 101 ∨ f q = 69)) ∧ o = some q) ∨ ((q < len ∧ (f q = 101 ∨ f q = 69)) ∧ ∃ u v, Esg f len (q + 1) u ∧ Digs f len u v ∧ ((v = u ∧ o = none) ∨ (u < v ∧ o = some v)))
/-- What endOfNumber answers. -/
def Num (f : Nat → Int) (len i : Nat) (r : Int) : Prop :=
  ∃ s, Sg f i s ∧ ((IntP f len s none ∧ r = -1) ∨ ∃ p, IntP f len s (some p) ∧
    ((Frac f len p none ∧ r = -1) ∨ ∃ q, Frac f len p (some q) ∧ ((Expo f len q none ∧ r = -1) ∨ ∃ v, Expo f len q (some v) ∧ r = (v : Int))))

def isDot (f : Nat → Int) (len p : Nat) : Bool := decide (p < len ∧ f p = 46)
def isE (f : Nat → Int) (len p : Nat) : Bool := decide (p < len ∧ (f p = 101 ∨ f p = 69))
def isPM (f : Nat → Int) (len p : Nat) : Bool := decide (p < len ∧ (f p = 43 ∨ f p = 45))

theorem intP_le {f : Nat → Int} {len s p : Nat} (h : IntP f len s (some p)) : p ≤ len := by
  unfold IntP at h
  rcases h with ⟨_, h⟩ | ⟨a, _, h⟩ | ⟨a, _, _, p', hd, h⟩ | ⟨_, _, h⟩
  · cases h
  · cases h; omega
  · cases h; exact hd.2.1
  · cases h
theorem frac_le {f : Nat → Int} {len p q : Nat} (hp : p ≤ len) (h : Frac f len p (some q)) : q ≤ len := by
  unfold Frac at h
  rcases h with ⟨_, h⟩ | ⟨a, _, q', hd, ⟨_, h⟩ | ⟨_, h⟩⟩
  · cases h; exact hp
  · cases h
  · cases h; exact hd.2.1

set_option maxHeartbeats 4000000 in
set_option maxRecDepth 100000 in
theorem number_any (b off len cap i : Nat) (f : Nat → Int) (w : World) (hlen : len ≤ 2097152) (hi : i < len)
    (hc : ∀ j, j < len → w.cell? ⟨b, off + j, none⟩ = some (.int .u8 (f j))) (hf : ∀ j, 0 ≤ f j ∧ f j ≤ 255) :
    Calls Trym.prog 23 #[.slice (some ⟨b, off, none⟩) len cap, .int .i64 (i : Int)] w fun e w' =>
      ∃ r : Int, e = .returned (.int .i64 r) ∧ Num f len i r ∧ w = w' := by
  have HA := hide hc
  have HF := hide hf
  clear hc hf
  obtain ⟨c, HX⟩ : ∃ x, Hid (x = f i) := ⟨_, rfl⟩
  have hx : w.cell? ⟨b, off + i, none⟩ = some (.int .u8 c) := by rw [HX.out]; exact HA.out _ hi
  go_enter Trym.func23, Trym.ntmps23
  go_upto_if 11 with fail
  go_cut [1] (fun v wx => ∃ s : Nat, v = .int .i64 s ∧ Sg f i s ∧ wx = w)
  case first =>
    by_cases h : c = 45
    · have h' : (c == 45) = true := by simpa using h
      have HH := hide h
      clear h
      go_wp2_with fail
      go_meet
      exact ⟨i + 1, by go_num, .inl ⟨HX.out ▸ HH.out, rfl⟩, rfl⟩
    · have h' : (c == 45) = false := by simpa using h
      have HH := hide h
      clear h
      go_wp2_with fail
      go_meet
      exact ⟨i, rfl, .inr ⟨HX.out ▸ HH.out, rfl⟩, rfl⟩
  case rest =>
  obtain ⟨s, rfl, hs, rfl⟩ := hcut
  have HS := hide hs
  have hsl : s ≤ len := by unfold Sg at hs; omega
  clear hs hx HX c
  go_upto_block 0 with fail
  go_cut [1] (fun v wx => ∃ p : Nat, v = .int .i64 p ∧ IntP f len s (some p) ∧ wx = wc)
  case first =>
    by_cases h0 : s = len
    · have h0' : ((s : Int) == (len : Int)) = true := by simp; omega
      have HH := hide h0
      clear h0
      go_wp2_with fail
      go_ret
      exact ⟨_, rfl, ⟨s, HS.out, .inl ⟨.inl ⟨HH.out, rfl⟩, rfl⟩⟩, rfl⟩
    have hslt : s < len := by omega
    have h0' : ((s : Int) == (len : Int)) = false := by simp; omega
    clear h0
    obtain ⟨c, HX⟩ : ∃ x, Hid (x = f s) := ⟨_, rfl⟩
    have hx : wc.cell? ⟨b, off + s, none⟩ = some (.int .u8 c) := by rw [HX.out]; exact HA.out _ hslt
    by_cases h48 : c = 48
    · have h' : (c == 48) = true := by simpa using h48
      have HH := hide h48
      clear h48
      go_wp2_with fail
      go_meet
      exact ⟨s + 1, by go_num, .inr (.inl ⟨hslt, HX.out ▸ HH.out, rfl⟩), rfl⟩
    have h' : (c == 48) = false := by simpa using h48
    have H48 := hide h48
    clear h48
    by_cases h1 : 49 ≤ c
    · have d1 : decide ((49 : Int) ≤ c) = true := by simpa using h1
      by_cases h2 : c ≤ 57
      · have d2 : decide (c ≤ (57 : Int)) = true := by simpa using h2
        go_wp2_with fail
        refine (digits_at b off len cap (s + 1) _ (by omega) f wc hlen (by omega) HA.out HF.out).mono ?_
        rintro e w2 ⟨p, rfl, hd, rfl⟩
        have HD := hide hd
        clear hd
        go_wp2_with fail
        go_meet
        exact ⟨p, rfl, .inr (.inr (.inl ⟨hslt, HX.out ▸ h1, HX.out ▸ h2, p, HD.out, rfl⟩)), rfl⟩
      · have d2 : decide (c ≤ (57 : Int)) = false := by simpa using h2
        have HN : Hid (f s < 48 ∨ 57 < f s) := by have := HX.out; unfold Hid; omega
        go_wp2_with fail
        go_ret
        exact ⟨_, rfl, ⟨s, HS.out, .inl ⟨.inr (.inr (.inr ⟨hslt, HN.out, rfl⟩)), rfl⟩⟩, rfl⟩
    · have d1 : decide ((49 : Int) ≤ c) = false := by simpa using h1
      have HN : Hid (f s < 48 ∨ 57 < f s) := by have := HX.out; have := H48.out; unfold Hid; omega
      go_wp2_with fail
      go_ret
      exact ⟨_, rfl, ⟨s, HS.out, .inl ⟨.inr (.inr (.inr ⟨hslt, HN.out, rfl⟩)), rfl⟩⟩, rfl⟩
  case rest =>
  obtain ⟨p, rfl, hp, rfl⟩ := hcut
  have hpl := intP_le hp
  have HP := hide hp
  clear hp
  -- the fraction's test
  go_upto_region 10 with fail
  go_cut [54] (fun v wx => v = .bool (isDot f len p) ∧ wx = wc)
  case first =>
    by_cases hpt : p < len
    · have d0 : decide ((p : Int) < (len : Int)) = true := by simp; omega
      obtain ⟨c, HX⟩ : ∃ x, Hid (x = f p) := ⟨_, rfl⟩
      have hx : wc.cell? ⟨b, off + p, none⟩ = some (.int .u8 c) := by rw [HX.out]; exact HA.out _ hpt
      have HE : Hid (isDot f len p = (c == 46)) := by unfold Hid isDot; rw [HX.out, Bool.eq_iff_iff]; simp [hpt]
      go_wp2_with fail
      go_meet
      exact ⟨by rw [HE.out], rfl⟩
    · have d0 : decide ((p : Int) < (len : Int)) = false := by simp; omega
      have HE : Hid (isDot f len p = false) := by unfold Hid isDot; simp [hpt]
      go_wp2_with fail
      go_meet
      exact ⟨by rw [HE.out], rfl⟩
  case rest =>
  obtain ⟨rfl, rfl⟩ := hcut
  go_upto_if 54 with fail
  go_cut [1] (fun v wx => ∃ q : Nat, v = .int .i64 q ∧ Frac f len p (some q) ∧ wx = wc)
  case first =>
    by_cases hd : isDot f len p = true
    · have HD0 : Hid (p < len ∧ f p = 46) := by unfold Hid; unfold isDot at hd; simpa using hd
      have hpt := HD0.out.1
      rw [hd]
      clear hd
      go_wp2_with fail
      refine (digits_at b off len cap (p + 1) _ (by omega) f wc hlen (by omega) HA.out HF.out).mono ?_
      rintro e w2 ⟨q, rfl, hd2, rfl⟩
      have hpq := hd2.1
      have HD := hide hd2
      clear hd2
      by_cases e : q = p + 1
      · have e' : ((q : Int) == (p : Int) + 1) = true := by simp; omega
        have HQ := hide e
        clear e
        go_wp2_with fail
        go_ret
        exact ⟨_, rfl, ⟨s, HS.out, .inr ⟨p, HP.out, .inl ⟨.inr ⟨HD0.out.1, HD0.out.2, q, HD.out, .inl ⟨HQ.out, rfl⟩⟩, rfl⟩⟩⟩, rfl⟩
      · have e' : ((q : Int) == (p : Int) + 1) = false := by simp; omega
        have hlt2 : p + 1 < q := by omega
        clear e
        go_wp2_with fail
        go_meet
        exact ⟨q, rfl, .inr ⟨HD0.out.1, HD0.out.2, q, HD.out, .inr ⟨hlt2, rfl⟩⟩, rfl⟩
    · have hd' : isDot f len p = false := by simpa using hd
      have HD0 : Hid (¬ (p < len ∧ f p = 46)) := by unfold Hid; unfold isDot at hd; simpa using hd
      rw [hd']
      clear hd hd'
      go_wp2_with fail
      go_meet
      exact ⟨p, rfl, .inl ⟨HD0.out, rfl⟩, rfl⟩
  case rest =>
  obtain ⟨q, rfl, hq, rfl⟩ := hcut
  have hql := frac_le hpl hq
  have HQ := hide hq
  clear hq
  -- the exponent's test
  go_upto_region 15 with fail
  go_cut [80] (fun v wx => v = .bool (isE f len q) ∧ wx = wc)
  case first =>
    by_cases hqt : q < len
    · have d0 : decide ((q : Int) < (len : Int)) = true := by simp; omega
      obtain ⟨c, HX⟩ : ∃ x, Hid (x = f q) := ⟨_, rfl⟩
      have hx : wc.cell? ⟨b, off + q, none⟩ = some (.int .u8 c) := by rw [HX.out]; exact HA.out _ hqt
      by_cases h1 : c = 101
      · have h1' : (c == 101) = true := by simpa using h1
        have HE : Hid (isE f len q = true) := by unfold Hid isE; rw [← HX.out]; simp [hqt, h1]
        clear h1
        go_wp2_with fail
        go_meet
        exact ⟨by rw [HE.out], rfl⟩
      · have h1' : (c == 101) = false := by simpa using h1
        have HE : Hid (isE f len q = (c == 69)) := by unfold Hid isE; rw [← HX.out, Bool.eq_iff_iff]; simp [hqt, h1]
        clear h1
        go_wp2_with fail
        go_meet
        exact ⟨by rw [HE.out], rfl⟩
    · have d0 : decide ((q : Int) < (len : Int)) = false := by simp; omega
      have HE : Hid (isE f len q = false) := by unfold Hid isE; simp [hqt]
      go_wp2_with fail
      go_meet
      exact ⟨by rw [HE.out], rfl⟩
  case rest =>
  obtain ⟨rfl, rfl⟩ := hcut
  by_cases hd : isE f len q = false
  · have HD0 : Hid (¬ (q < len ∧ (f q = 101 ∨ f q = 69))) := by unfold Hid; unfold isE at hd; simpa using hd
    rw [hd]
    clear hd
    go_wp2_with fail
    go_ret
    exact ⟨_, rfl, ⟨s, HS.out, .inr ⟨p, HP.out, .inr ⟨q, HQ.out, .inr ⟨q, .inl ⟨HD0.out, rfl⟩, rfl⟩⟩⟩⟩, rfl⟩
  have hd' : isE f len q = true := by simpa using hd
  have HD0 : Hid (q < len ∧ (f q = 101 ∨ f q = 69)) := by unfold Hid; unfold isE at hd'; simpa using hd'
  have hqt := HD0.out.1
  rw [hd']
  clear hd hd'
  go_upto_region 17 with fail
  go_cut [100] (fun v wx => v = .bool (isPM f len (q + 1)) ∧ wx = wc)
  case first =>
    by_cases hqt2 : q + 1 < len
    · have d0 : decide ((q : Int) + 1 < (len : Int)) = true := by simp; omega
      obtain ⟨c, HX⟩ : ∃ x, Hid (x = f (q + 1)) := ⟨_, rfl⟩
      have hx : wc.cell? ⟨b, off + (q + 1), none⟩ = some (.int .u8 c) := by rw [HX.out]; exact HA.out _ hqt2
      by_cases h1 : c = 43
      · have h1' : (c == 43) = true := by simpa using h1
        have HE : Hid (isPM f len (q + 1) = true) := by unfold Hid isPM; rw [← HX.out]; simp [hqt2, h1]
        clear h1
        go_wp2_with fail
        go_meet
        exact ⟨by rw [HE.out], rfl⟩
      · have h1' : (c == 43) = false := by simpa using h1
        have HE : Hid (isPM f len (q + 1) = (c == 45)) := by unfold Hid isPM; rw [← HX.out, Bool.eq_iff_iff]; simp [hqt2, h1]
        clear h1
        go_wp2_with fail
        go_meet
        exact ⟨by rw [HE.out], rfl⟩
    · have d0 : decide ((q : Int) + 1 < (len : Int)) = false := by simp; omega
      have HE : Hid (isPM f len (q + 1) = false) := by unfold Hid isPM; simp [hqt2]
      go_wp2_with fail
      go_meet
      exact ⟨by rw [HE.out], rfl⟩
  case rest =>
  obtain ⟨rfl, rfl⟩ := hcut
  by_cases hd : isPM f len (q + 1) = false
  · have HD1 : Hid (Esg f len (q + 1) (q + 1)) := by unfold Hid Esg; unfold isPM at hd; exact .inr ⟨by simpa using hd, rfl⟩
    rw [hd]
    clear hd
    go_wp2_with fail
    refine (digits_at b off len cap (q + 1) _ (by omega) f wc hlen (by omega) HA.out HF.out).mono ?_
    rintro e w2 ⟨v, rfl, hd2, rfl⟩
    have huv := hd2.1
    have HD := hide hd2
    clear hd2
    by_cases e : v = q + 1
    · have e' : ((v : Int) == (q : Int) + 1) = true := by simp; omega
      have HV := hide e
      clear e
      go_wp2_with fail
      go_ret
      exact ⟨_, rfl, ⟨s, HS.out, .inr ⟨p, HP.out, .inr ⟨q, HQ.out, .inl ⟨.inr ⟨HD0.out, q + 1, v, HD1.out, HD.out, .inl ⟨HV.out, rfl⟩⟩, rfl⟩⟩⟩⟩, rfl⟩
    · have e' : ((v : Int) == (q : Int) + 1) = false := by simp; omega
      have HV : Hid (q + 1 < v) := by unfold Hid; omega
      clear e
      go_wp2_with fail
      go_ret
      exact ⟨_, rfl, ⟨s, HS.out, .inr ⟨p, HP.out, .inr ⟨q, HQ.out, .inr ⟨v, .inr ⟨HD0.out, q + 1, v, HD1.out, HD.out, .inr ⟨HV.out, rfl⟩⟩, rfl⟩⟩⟩⟩, rfl⟩
  have hd' : isPM f len (q + 1) = true := by simpa using hd
  have HD1 : Hid (q + 1 < len ∧ Esg f len (q + 1) (q + 1 + 1)) := by unfold Hid Esg; unfold isPM at hd'; have h := of_decide_eq_true hd'; exact ⟨h.1, .inl ⟨h, rfl⟩⟩
  have hqt2 := HD1.out.1
  rw [hd']
  clear hd hd'
  go_wp2_with fail
  refine (digits_at b off len cap (q + 1 + 1) _ (by omega) f wc hlen (by omega) HA.out HF.out).mono ?_
  rintro e w2 ⟨v, rfl, hd2, rfl⟩
  have huv := hd2.1
  have HD := hide hd2
  clear hd2
  by_cases e : v = q + 1 + 1
  · have e' : ((v : Int) == (q : Int) + 1 + 1) = true := by simp; omega
    have HV := hide e
    clear e
    go_wp2_with fail
    go_ret
    exact ⟨_, rfl, ⟨s, HS.out, .inr ⟨p, HP.out, .inr ⟨q, HQ.out, .inl ⟨.inr ⟨HD0.out, q + 1 + 1, v, HD1.out.2, HD.out, .inl ⟨HV.out, rfl⟩⟩, rfl⟩⟩⟩⟩, rfl⟩
  · have e' : ((v : Int) == (q : Int) + 1 + 1) = false := by simp; omega
    have HV : Hid (q + 1 + 1 < v) := by unfold Hid; omega
    clear e
    go_wp2_with fail
    go_ret
    exact ⟨_, rfl, ⟨s, HS.out, .inr ⟨p, HP.out, .inr ⟨q, HQ.out, .inr ⟨v, .inr ⟨HD0.out, q + 1 + 1, v, HD1.out.2, HD.out, .inr ⟨HV.out, rfl⟩⟩, rfl⟩⟩⟩⟩, rfl⟩
end Go.Proofs.Qxb6602172aMods
