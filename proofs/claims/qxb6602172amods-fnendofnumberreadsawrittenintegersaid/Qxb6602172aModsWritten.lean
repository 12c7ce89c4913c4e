/-
  'FnEndOfNumberReadsAWrittenInteger' (function 8): the plain law on 'Num', and the law's walk.
-/
import Derived.Test.Qxb6602172aModsNumLaws
import Derived.Test.Qxb6602172aModsAuto
import Derived.Test.Qxb6602172aModsDec
namespace Go.Proofs.Qxb6602172aMods
open Go.ChangeShapes Go.WideShapes Go.ChangeAt Go.RowKit
set_option linter.unusedVariables false

/-- A written integer: at s the digits begin, at L they end; what follows does not go on with a number. -/
theorem num_written {f : Nat → Int} {len L s : Nat} {r : Int} (hs : (s = 1 ∧ f 0 = 45) ∨ (s = 0 ∧ f 0 ≠ 45)) (hsL : s < L) (hL : L ≤ len)
    (hd : ∀ j, s ≤ j → j < L → 48 ≤ f j ∧ f j ≤ 57) (hz : f s = 48 → L = s + 1)
    (ht : L < len → (f L < 48 ∨ 57 < f L) ∧ f L ≠ 46 ∧ f L ≠ 101 ∧ f L ≠ 69) (h : Num f len 0 r) : r = (L : Int) := by
  obtain ⟨s', hs', h⟩ := h
  have e : s' = s := by clear h; unfold Sg at hs'; omega
  subst e
  have ip : ∀ o, IntP f len s' o → o = some L := by
    intro o ho
    have hds := hd s' (Nat.le_refl _) hsL
    unfold IntP at ho
    rcases ho with ⟨_, _⟩ | ⟨_, h48, ho⟩ | ⟨_, _, _, p, hp, ho⟩ | ⟨_, _, _⟩
    · omega
    · rw [ho, hz h48]
    · rw [ho]
      congr 1
      exact digs_unique hp ⟨by omega, hL, fun j a b => hd j (by omega) b, fun l hh => by have := (ht l).1; unfold digit at hh; omega⟩
    · omega
  have fp : ∀ o, Frac f len L o → o = some L := by
    intro o ho
    unfold Frac at ho
    rcases ho with ⟨_, ho⟩ | ⟨a, b, _⟩
    · exact ho
    · exact absurd b (ht a).2.1
  have ep : ∀ o, Expo f len L o → o = some L := by
    intro o ho
    unfold Expo at ho
    rcases ho with ⟨_, ho⟩ | ⟨⟨a, b⟩, _⟩
    · exact ho
    · have := ht a; omega
  rcases h with ⟨h, _⟩ | ⟨p, h, h'⟩
  · exact absurd (ip _ h) (by simp)
  obtain rfl : p = L := by simpa using ip _ h
  rcases h' with ⟨h, _⟩ | ⟨q, h, h'⟩
  · exact absurd (fp _ h) (by simp)
  obtain rfl : q = p := by simpa using fp _ h
  rcases h' with ⟨h, _⟩ | ⟨v, h, h'⟩
  · exact absurd (ep _ h) (by simp)
  obtain rfl : v = q := by simpa using ep _ h
  exact h'

set_option maxHeartbeats 400000 in
/-- 'cloneBytes' at nil. -/
theorem clone_nil (w : World) : Calls Trym.prog 11 #[.slice none 0 0] w fun e w' => e = .returned (.slice none 0 0) ∧ w = w' := by
  have q23 : ∀ (w : World) (a : Option Addr) (n c n' c' : Nat), (binOp .eql 23 (.slice a n c) (.slice none n' c')).run Trym.prog w = .ok (.bool a.isNone) w := fun w a n c n' c' => Lib.run_eql_slice_nil w _ _ a n c n' c' Trym.underlying23
  go_enter Trym.func11, Trym.ntmps11
  go_wp2
  go_ret
  exact ⟨rfl, rfl⟩

set_option maxHeartbeats 400000 in
/-- 'cloneBytes' at an empty slice that is not nil. -/
theorem clone_empty (x : Addr) (cap : Nat) (w : World) : Calls Trym.prog 11 #[.slice (some x) 0 cap] w fun e w' => e = .returned (.slice (some ⟨w.heap.size, 0, none⟩) 0 0) ∧ Below w.heap.size w w' := by
  have hmk : ∀ w : World, _ := run_make_row' (P := Trym.prog) 23 5 (.int .u8 0) 1 Trym.underlying23 Trym.info5 rfl .i64 .i64 0 (by omega) (by omega)
  have q23 : ∀ (w : World) (a : Option Addr) (n c n' c' : Nat), (binOp .eql 23 (.slice a n c) (.slice none n' c')).run Trym.prog w = .ok (.bool a.isNone) w := fun w a n c n' c' => Lib.run_eql_slice_nil w _ _ a n c n' c' Trym.underlying23
  simp only [Int.natCast_zero] at hmk
  go_enter Trym.func11, Trym.ntmps11
  go_wp2
  clear hmk q23
  go_loop [4] (fun i => i = .int .i64 0) (fun _ => 0)
  case atStart => rfl
  case round =>
    subst hrel
    go_wp2
    go_ret
    exact ⟨rfl, (Below.refl _ _).alloc (Nat.le_refl _) _⟩

/-- A written integer, as a list. -/
def WrS (ts : List Int) : Prop := ∃ s, ((s = 1 ∧ ts.getD 0 0 = 45) ∨ (s = 0 ∧ ts.getD 0 0 ≠ 45)) ∧ s < ts.length ∧ (∀ j, s ≤ j → j < ts.length → 48 ≤ ts.getD j 0 ∧ ts.getD j 0 ≤ 57) ∧ (ts.getD s 0 = 48 → ts.length = s + 1)

theorem getD_mem {xs : List Int} {j : Nat} (h : j < xs.length) : xs.getD j 0 ∈ xs := by
  rw [show xs.getD j 0 = xs[j] by simp [h]]
  exact List.getElem_mem h

theorem wrS_pos {xs : List Int} (h : Wr xs) : WrS xs := by
  obtain ⟨h1, h2, h3⟩ := h
  have h0 := h2 _ (getD_mem (show 0 < xs.length by omega))
  exact ⟨0, .inr ⟨rfl, by omega⟩, by omega, fun j _ hj => h2 _ (getD_mem hj), fun h => by simpa using h3 h⟩

theorem wrS_neg {xs : List Int} (h : Wr xs) : WrS (45 :: xs) := by
  obtain ⟨h1, h2, h3⟩ := h
  refine ⟨1, .inl ⟨rfl, rfl⟩, by simp; omega, fun j a b => ?_, fun h => ?_⟩
  · obtain ⟨m, rfl⟩ : ∃ m, j = m + 1 := ⟨j - 1, by omega⟩
    simp only [List.length_cons] at b
    simpa using h2 _ (getD_mem (show m < xs.length by omega))
  · have := h3 (by simpa using h)
    simp [this]

theorem dec_any (n : Int) (w : World) (h0 : -9223372036854775808 ≤ n) (h1 : n ≤ 9223372036854775807) :
    Calls Trym.prog 20 #[.int .i64 n] w fun e w' => ∃ ts : List Int, WrS ts ∧ ts.length ≤ 21 ∧
      e = .returned (.slice (some ⟨w.heap.size + 1, 0, none⟩) ts.length 21) ∧
      w'.ownsRow w.heap.size 5 1 (.slice (some ⟨w.heap.size + 1, 0, none⟩) ts.length 21) ts.length (ts.map (Value.int .u8)) ∧ Below w.heap.size w w' := by
  by_cases h : n < 0
  · refine (dec_neg n w h h0).mono ?_
    rintro e w' ⟨xs, hW, hl, he, hr, hb⟩
    have el : (45 :: xs).length = 1 + xs.length := by simp; omega
    exact ⟨45 :: xs, wrS_neg hW, by omega, by rw [el]; exact he, by rw [el]; exact hr, hb⟩
  · obtain ⟨m, rfl⟩ := Int.eq_ofNat_of_zero_le (show 0 ≤ n by omega)
    refine (dec_pos m w (by omega)).mono ?_
    rintro e w' ⟨xs, hW, hl, he, hr, hb⟩
    exact ⟨xs, wrS_pos hW, by omega, he, hr, hb⟩

/-- What the cloned tail is good for. -/
def TailOK (w1 : World) (ao : Option Addr) (c : Nat) (ys : List Int) : Prop :=
  (ao = none → ys.length = 0 ∧ c = 0) ∧ ∀ ad, ao = some ad → ∀ j u, (ys.map (Value.int .u8))[j]? = some u → w1.cell? (ad.add j) = some u

theorem map_get {ys : List Int} {j : Nat} {u : Value} (h : (ys.map (Value.int .u8))[j]? = some u) : j < ys.length ∧ u = .int .u8 (ys.getD j 0) := by
  rw [List.getElem?_map, Option.map_eq_some_iff] at h
  obtain ⟨a, ha, rfl⟩ := h
  obtain ⟨hl, he⟩ := List.getElem?_eq_some_iff.1 ha
  exact ⟨hl, by simp [hl, he]⟩

theorem map_at {zs : List Int} {j : Nat} (h : j < zs.length) : (zs.map (Value.int .u8))[j]? = some (.int .u8 (zs.getD j 0)) := by
  simp [h]

theorem clone_tail (a : Option Addr) (cap : Nat) (ys : List Int) (w : World) (hlen : ys.length ≤ 1048576)
    (h : (a = none ∧ ys.length = 0 ∧ cap = 0) ∨ ∃ x, a = some x ∧ (0 < ys.length → ∃ b off, x = ⟨b, off, none⟩ ∧ ∀ j, j < ys.length → w.cell? ⟨b, off + j, none⟩ = some (.int .u8 (ys.getD j 0)))) :
    Calls Trym.prog 11 #[.slice a ys.length cap] w fun e w' => ∃ ao c, e = .returned (.slice ao ys.length c) ∧ TailOK w' ao c ys ∧ Below w.heap.size w w' := by
  rcases h with ⟨rfl, h0, rfl⟩ | ⟨x, rfl, h⟩
  · rw [h0]
    refine (clone_nil w).mono ?_
    rintro e w' ⟨rfl, rfl⟩
    exact ⟨none, 0, rfl, ⟨fun _ => ⟨h0, rfl⟩, fun ad h => (by cases h)⟩, Below.refl _ _⟩
  · by_cases h0 : 0 < ys.length
    · obtain ⟨b, off, rfl, hc⟩ := h h0
      have hb : b < w.heap.size := World.block_lt_of_cell? _ _ (hc 0 h0)
      refine (clone_any b off ys.length cap (fun j => ys.getD j 0) w hlen hc hb).mono ?_
      rintro e w' ⟨rfl, hrow, hbel⟩
      refine ⟨_, _, rfl, ⟨fun h => (by cases h), fun ad had j u hj => ?_⟩, hbel⟩
      cases had
      obtain ⟨hl, rfl⟩ := map_get hj
      rw [Go.WideShapes.add_plain, Nat.zero_add]
      exact hrow.cell hl
    · have e0 : ys.length = 0 := by omega
      rw [e0]
      refine (clone_empty x cap w).mono ?_
      rintro e w' ⟨rfl, hbel⟩
      refine ⟨_, _, rfl, ⟨fun h => (by cases h), fun ad had j u hj => ?_⟩, hbel⟩
      have := (map_get hj).1
      omega

/-- The bytes that endOfNumber is handed: the text, then the tail. -/
theorem num_text {ts ys : List Int} {r : Int} (hW : WrS ts) (ht : 0 < ys.length → (ys.getD 0 0 < 48 ∨ 57 < ys.getD 0 0) ∧ ys.getD 0 0 ≠ 46 ∧ ys.getD 0 0 ≠ 101 ∧ ys.getD 0 0 ≠ 69)
    (h : Num (fun j => (ts ++ ys).getD j 0) (ts.length + ys.length) 0 r) : r = (ts.length : Int) := by
  obtain ⟨s, hs, hsL, hd, hz⟩ := hW
  have el : ∀ j, j < ts.length → (ts ++ ys).getD j 0 = ts.getD j 0 := fun j hj => by simp [List.getElem?_append_left hj]
  have er : (ts ++ ys).getD ts.length 0 = ys.getD 0 0 := by simp [List.getElem?_append_right]
  refine num_written (s := s) ?_ hsL (by omega) (fun j a b => by simp only [el j b]; exact hd j a b) (fun h => hz (by rw [← el s hsL]; exact h)) (fun l => by simp only [er]; exact ht (by omega)) h
  simp only [el 0 (by omega)]
  exact hs

theorem tail_cells {w1 w2 w3 w4 : World} {ao : Option Addr} {c1 : Nat} {ys : List Int} (h : TailOK w1 ao c1 ys) (hb : Below w1.heap.size w1 w2) (g3 : w2.grownBy w3 none) (g4 : w3.grownBy w4 (some w2.heap.size)) :
    ∀ ad, ao = some ad → ∀ j u, (ys.map (Value.int .u8))[j]? = some u → w4.cell? (ad.add j) = some u := by
  intro ad had j u hj
  have h1 := h.2 ad had j u hj
  have hlt := World.block_lt_of_cell? _ _ h1
  have h2 := cell_later hb h1
  refine g4.cell (g3.cell h2 (by simp)) (fun e => ?_)
  have e' := Option.some.inj e
  have := hb.size
  omega

theorem bytes_of {ts ys : List Int} (hW : WrS ts) (hy : ∀ y ∈ ys, 0 ≤ y ∧ y ≤ 255) : ∀ x ∈ ts ++ ys, 0 ≤ x ∧ x ≤ 255 := by
  intro x hx
  rcases List.mem_append.1 hx with h | h
  · obtain ⟨s, hs, hsl, hd, _⟩ := hW
    obtain ⟨j, hj, rfl⟩ := List.getElem_of_mem h
    have e : ts[j] = ts.getD j 0 := by simp [hj]
    by_cases l : s ≤ j
    · have := hd j l hj; omega
    · have : j = 0 := by omega
      subst this
      omega
  · exact hy x h

/-- The tail goes on with a number. -/
def goesOn (c : Int) : Prop := (48 ≤ c ∧ c ≤ 57) ∨ c = 46 ∨ c = 101 ∨ c = 69

set_option maxHeartbeats 1000000 in
set_option maxRecDepth 100000 in
theorem written_core (n : Int) (a : Option Addr) (cap : Nat) (ys : List Int) (w : World) (h0 : -9223372036854775808 ≤ n) (h1 : n ≤ 9223372036854775807) (hlen : ys.length ≤ 1048576)
    (hy : ∀ y ∈ ys, 0 ≤ y ∧ y ≤ 255) (ht : 0 < ys.length → ¬ goesOn (ys.getD 0 0))
    (h : (a = none ∧ ys.length = 0 ∧ cap = 0) ∨ ∃ x, a = some x ∧ (0 < ys.length → ∃ b off, x = ⟨b, off, none⟩ ∧ ∀ j, j < ys.length → w.cell? ⟨b, off + j, none⟩ = some (.int .u8 (ys.getD j 0)))) :
    Calls Trym.prog 8 #[.int .i64 n, .slice a ys.length cap] w fun e w' => e = .returned (.bool true) ∧ Below w.heap.size w w' := by
  obtain ⟨i0, hi, hz0, hz1, hz2⟩ := info_parts Trym.info5
  have HA := hide h
  have HY := hide hy
  have HT := hide ht
  clear h hy ht
  obtain ⟨len, HL⟩ : ∃ len, Hid (ys.length = len) := ⟨_, rfl⟩
  rw [HL.out] at hlen
  rw [HL.out]
  go_enter Trym.func8, Trym.ntmps8
  go_upto_if 17 with (first | (go_at_call 18; go_in))
  go_cut [] (fun wx => wx = w)
  case first =>
    by_cases hp : 0 < len
    · have d0 : decide ((0 : Int) < (len : Int)) = true := by simp; omega
      have hyp : 0 < ys.length := by rw [HL.out]; exact hp
      rcases HA.out with ⟨_, e, _⟩ | ⟨x, rfl, hx⟩
      · omega
      obtain ⟨b, off, rfl, hc⟩ := hx hyp
      have hc0 := hc 0 hyp
      have hb0 := HY.out _ (getD_mem hyp)
      have hg := HT.out hyp
      obtain ⟨c, HC⟩ : ∃ c, Hid (c = ys.getD 0 0) := ⟨_, rfl⟩
      rw [← HC.out] at hc0 hb0 hg
      clear hx hc hyp
      rw [Nat.add_zero] at hc0
      have e1 : dig c = false := by unfold dig; unfold goesOn at hg; simp; omega
      have e2 : (c == 46) = false := by unfold goesOn at hg; simp; omega
      have e3 : (c == 101) = false := by unfold goesOn at hg; simp; omega
      have e4 : (c == 69) = false := by unfold goesOn at hg; simp; omega
      clear hg
      go_wp2_with (first | (go_at_call 19; refine (digit_any c w hb0).mono ?_; rintro e w' ⟨rfl, rfl⟩; rw [e1]))
      go_meet
      rfl
    · have d0 : decide ((0 : Int) < (len : Int)) = false := by simp; omega
      go_wp2_with fail
      go_meet
      rfl
  case rest =>
  obtain rfl := hcut
  go_wp2_with fail
  rw [← HL.out]
  refine (clone_tail a cap ys wc (by rw [HL.out]; exact hlen) HA.out).mono ?_
  rintro e w1 ⟨ao, c1, rfl, hT, hB1⟩
  have HT1 := hide hT
  have HB1 := hide hB1
  rw [HL.out]
  clear hT hB1
  go_wp2_with fail
  refine (dec_any n w1 h0 h1).mono ?_
  rintro e w2 ⟨ts, hW, htl, rfl, hown, hB2⟩
  obtain ⟨L, HLT⟩ : ∃ L, Hid (ts.length = L) := ⟨_, rfl⟩
  rw [HLT.out] at htl hown
  rw [HLT.out]
  have HW := hide hW
  have HB2 := hide hB2
  have HO := hide hown
  clear hW hB2 hown
  go_wp2_with (first
    | (at_make; refine wpList_make_own _ rfl _ _ 23 rfl w1.heap.size 5 i0 (.int .u8 0) 1 Trym.underlying23 hi hz0 hz1 .i64 .i64 _ (L + len) rfl rfl (by omega) (by rw [hz2]; omega) (by unfold maxLen; omega) HB2.out.size ?_; intro w3 hown3 hgrow3)
    | (at_builtin; refine wpList_append_fits _ rfl (.tmp 45) (.tmp 46) 23 rfl w1.heap.size 5 i0 1 Trym.underlying23 hi hz1 w2.heap.size 0 (L + len) [] rfl hown3 ⟨w1.heap.size + 1, 0, none⟩ L 21 (ts.map (Value.int .u8)) rfl (by simp [HLT.out]) (fun j u hj => hgrow3.cell (HO.out.cells rfl j u hj) (by simp)) (ints_oneCell _ _) (by omega) ?_; intro w4 hown4 hgrow4; simp only [Nat.zero_add, List.nil_append] at hown4)
    | (at_builtin; refine wpList_append_fits_any _ rfl (.tmp 48) (.tmp 49) 23 rfl w1.heap.size 5 i0 1 Trym.underlying23 hi hz1 w2.heap.size L (L + len) _ rfl hown4 ao len c1 (ys.map (Value.int .u8)) rfl (by simp [HL.out]) (fun h => ⟨HL.out ▸ (HT1.out.1 h).1, (HT1.out.1 h).2⟩) (tail_cells HT1.out HB2.out hgrow3 hgrow4) (ints_oneCell _ _) (by omega) ?_; intro w5 hown5 hgrow5)
    | (go_at_call 15; go_in))
  have HO5 := hide hown5
  have B3 := HB2.out.grown hgrow3 HB2.out.size (fun k hk => by cases hk)
  have B4 := B3.grown hgrow4 B3.size (fun k hk => by cases hk; exact HB2.out.size)
  have B5 := B4.grown hgrow5 B4.size (fun k hk => by cases hk; exact HB2.out.size)
  have HB5 := hide (HB1.out.trans (B5.mono HB1.out.size))
  clear hown3 hown4 hown5 hgrow3 hgrow4 hgrow5 B3 B4 B5
  refine (number_at w2.heap.size 0 (L + len) (L + len) 0 0 rfl (fun j => (ts ++ ys).getD j 0) w5 (by omega) ?_ ?_ ?_).mono ?_
  · obtain ⟨s, _, hs, _⟩ := HW.out
    rw [HLT.out] at hs
    omega
  · intro j hj
    have hlt : j < (ts ++ ys).length := by rw [List.length_append, HLT.out, HL.out]; exact hj
    have hx : (ts.map (Value.int .u8) ++ ys.map (Value.int .u8))[j]? = some (.int .u8 ((ts ++ ys).getD j 0)) := by
      rw [← List.map_append]
      exact map_at hlt
    have := HO5.out.cells rfl j _ hx
    rw [Go.WideShapes.add_plain] at this
    exact this
  · intro j
    by_cases hlt : j < (ts ++ ys).length
    · exact bytes_of HW.out HY.out _ (getD_mem hlt)
    · rw [show (ts ++ ys).getD j 0 = 0 by simp [List.getElem?_eq_none (show (ts ++ ys).length ≤ j by omega)]]
      omega
  · rintro e w6 ⟨r, rfl, hN, rfl⟩
    rw [← HLT.out, ← HL.out] at hN
    have hr := num_text HW.out (fun h => by have := HT.out h; unfold goesOn at this; omega) hN
    rw [HLT.out] at hr
    subst hr
    clear hN
    go_wp2
    go_ret
    exact ⟨by simp, HB5.out⟩
end Go.Proofs.Qxb6602172aMods
