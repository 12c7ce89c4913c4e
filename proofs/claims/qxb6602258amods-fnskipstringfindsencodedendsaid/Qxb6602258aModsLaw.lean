/-
  'FnSkipStringFindsEncodedEnd' (function 5): the encoded text, plainly; and the law's walk where it is not said true at once.
-/
import Derived.Test.Qxb6602258aModsSkip
import Derived.Deep.DeepCutAuto
namespace Go.Proofs.Qxb6602258aMods
open Go.ChangeShapes Go.WideShapes Go.ChangeAt Go.RowKit
set_option linter.unusedVariables false

/-- j pieces, one behind the other. -/
def Pieces : Nat → List Int → Prop
  | 0, l => l = []
  | j + 1, l => ∃ l' ps, Pieces j l' ∧ Piece ps ∧ l = l' ++ ps

theorem piece_len {ps : List Int} (h : Piece ps) : 1 ≤ ps.length ∧ ps.length ≤ 6 := by
  rcases h with ⟨c, rfl, _⟩ | ⟨d, rfl, _⟩ | ⟨x, y, rfl, _⟩ <;> simp

theorem pieces_len : ∀ {j : Nat} {l : List Int}, Pieces j l → l.length ≤ 6 * j
  | 0, l, h => by have : l = [] := h; simp [this]
  | j + 1, l, ⟨l', ps, h, hp, e⟩ => by
    have h1 := pieces_len h
    have h2 := piece_len hp
    rw [e, List.length_append]
    omega

theorem short_u8 {d : Int} (h : short d) : 0 ≤ d ∧ d ≤ 255 := by unfold short at h; omega
theorem hexd_u8 {d : Int} (h : hexd d) : 0 ≤ d ∧ d ≤ 255 := by unfold hexd at h; omega
theorem piece_u8 {ps : List Int} (h : Piece ps) : ∀ x ∈ ps, 0 ≤ x ∧ x ≤ 255 := by
  intro x hx
  rcases h with ⟨c, rfl, _, _, _⟩ | ⟨d, rfl, hd⟩ | ⟨a, b, rfl, ha, hb⟩
  · simp at hx; omega
  · simp at hx
    rcases hx with rfl | rfl
    · omega
    · exact short_u8 hd
  · simp at hx
    rcases hx with rfl | rfl | rfl | rfl | rfl
    · omega
    · omega
    · omega
    · exact hexd_u8 ha
    · exact hexd_u8 hb
theorem pieces_u8 : ∀ {j : Nat} {l : List Int}, Pieces j l → ∀ x ∈ l, 0 ≤ x ∧ x ≤ 255
  | 0, l, h => by have : l = [] := h; simp [this]
  | j + 1, l, ⟨l', ps, h, hp, e⟩ => by
    intro x hx
    rw [e] at hx
    rcases List.mem_append.1 hx with hx | hx
    · exact pieces_u8 h x hx
    · exact piece_u8 hp x hx

theorem chunks_snoc {f : Nat → Int} : ∀ {m i e n : Nat}, Chunks f m i e → Chunk f e n → Chunks f (m + 1) i (e + n)
  | 0, i, e, n, h, k => by have : i = e := h; subst this; exact ⟨n, k, rfl⟩
  | m + 1, i, e, n, ⟨a, ha, h⟩, k => ⟨a, ha, chunks_snoc h k⟩

theorem chunk_of_piece {f : Nat → Int} {ps : List Int} {i : Nat} (h : Piece ps) (hf : ∀ t, t < ps.length → f (i + t) = ps.getD t 0) : Chunk f i ps.length := by
  rcases h with ⟨c, rfl, h1, _, h2, h3⟩ | ⟨d, rfl, hd⟩ | ⟨a, b, rfl, ha, hb⟩
  · have e : f i = c := by simpa using hf 0 (by simp)
    exact .inl ⟨rfl, by omega, by omega, by omega⟩
  · have e : f i = 92 := by simpa using hf 0 (by simp)
    have e1 : f (i + 1) = d := by simpa using hf 1 (by simp)
    exact .inr (.inl ⟨rfl, e, by rw [e1]; exact hd⟩)
  · have e : f i = 92 := by simpa using hf 0 (by simp)
    have e1 : f (i + 1) = 117 := by simpa using hf 1 (by simp)
    have e2 : f (i + 1 + 1 + 0) = 48 := by simpa using hf 2 (by simp)
    have e3 : f (i + 1 + 1 + 1) = 48 := by simpa using hf 3 (by simp)
    have e4 : f (i + 1 + 1 + 2) = a := by simpa using hf 4 (by simp)
    have e5 : f (i + 1 + 1 + 3) = b := by simpa using hf 5 (by simp)
    refine .inr (.inr ⟨rfl, e, e1, fun k hk => ?_⟩)
    match k, hk with
    | 0, _ => rw [e2]; unfold hexd; omega
    | 1, _ => rw [e3]; unfold hexd; omega
    | 2, _ => rw [e4]; exact ha
    | 3, _ => rw [e5]; exact hb

theorem chunks_of_pieces {f : Nat → Int} {i : Nat} : ∀ {j : Nat} {l : List Int}, Pieces j l → (∀ t, t < l.length → f (i + t) = l.getD t 0) → Chunks f j i (i + l.length)
  | 0, l, h, _ => by have : l = [] := h; subst this; rfl
  | j + 1, l, ⟨l', ps, h, hp, e⟩, hf => by
    subst e
    have h1 : Chunks f j i (i + l'.length) := chunks_of_pieces h fun t ht => by
      rw [hf t (by rw [List.length_append]; omega)]
      simp [List.getElem?_append_left ht]
    have h2 : Chunk f (i + l'.length) ps.length := chunk_of_piece hp fun t ht => by
      rw [Nat.add_assoc, hf (l'.length + t) (by rw [List.length_append]; omega)]
      simp [List.getElem?_append_right]
    rw [List.length_append, ← Nat.add_assoc]
    exact chunks_snoc h1 h2

/-- The whole text. -/
theorem text_facts {ps l ts : List Int} {j : Nat} (h : Pieces j l) :
    ((ps ++ [34] ++ l ++ [34] ++ ts).getD ps.length 0 = 34) ∧ ((ps ++ [34] ++ l ++ [34] ++ ts).getD (ps.length + 1 + l.length) 0 = 34) ∧
      Chunks (fun t => (ps ++ [34] ++ l ++ [34] ++ ts).getD t 0) j (ps.length + 1) (ps.length + 1 + l.length) := by
  have e : ps ++ [34] ++ l ++ [34] ++ ts = ps ++ (34 :: (l ++ (34 :: ts))) := by simp
  rw [e]
  refine ⟨by simp, ?_, chunks_of_pieces h fun t ht => ?_⟩
  · rw [Nat.add_assoc]
    simp [Nat.add_comm 1]
  · rw [Nat.add_assoc]
    simp [List.getElem?_append_right, Nat.add_comm 1, List.getElem?_append_left ht]

/-- What a cloned slice is. -/
def Cloned (B : Nat) (w' : World) (ao : Option Addr) (c : Nat) (ys : List Int) : Prop :=
  (ao = none ∧ ys.length = 0 ∧ c = 0) ∨ (ao = some ⟨B, 0, none⟩ ∧ c = ys.length ∧ ∀ j, j < ys.length → w'.cell? ⟨B, j, none⟩ = some (.int .u8 (ys.getD j 0)))

/-- What came in. -/
def CameIn (w : World) (a : Option Addr) (cap : Nat) (ys : List Int) : Prop :=
  (a = none ∧ ys.length = 0 ∧ cap = 0) ∨ ∃ x, a = some x ∧ (0 < ys.length → ∃ b off, x = ⟨b, off, none⟩ ∧ ∀ j, j < ys.length → w.cell? ⟨b, off + j, none⟩ = some (.int .u8 (ys.getD j 0)))

theorem CameIn.later {w w' : World} {a : Option Addr} {cap : Nat} {ys : List Int} (h : CameIn w a cap ys) (hb : Below w.heap.size w w') : CameIn w' a cap ys := by
  rcases h with h | ⟨x, rfl, h⟩
  · exact .inl h
  · refine .inr ⟨x, rfl, fun hp => ?_⟩
    obtain ⟨b, off, rfl, hc⟩ := h hp
    exact ⟨b, off, rfl, fun j hj => cell_later hb (hc j hj)⟩

theorem clone_strong (a : Option Addr) (cap : Nat) (ys : List Int) (w : World) (hlen : ys.length ≤ 1048576) (h : CameIn w a cap ys) :
    Calls Trym.prog 12 #[.slice a ys.length cap] w fun e w' => ∃ ao c, e = .returned (.slice ao ys.length c) ∧ Cloned w.heap.size w' ao c ys ∧ (ao = none ∨ w.heap.size < w'.heap.size) ∧ Below w.heap.size w w' := by
  rcases h with ⟨rfl, h0, rfl⟩ | ⟨x, rfl, h⟩
  · rw [h0]
    refine (clone_nil w).mono ?_
    rintro e w' ⟨rfl, rfl⟩
    exact ⟨none, 0, rfl, .inl ⟨rfl, h0, rfl⟩, .inl rfl, Below.refl _ _⟩
  · by_cases h0 : 0 < ys.length
    · obtain ⟨b, off, rfl, hc⟩ := h h0
      have hb : b < w.heap.size := World.block_lt_of_cell? _ _ (hc 0 h0)
      refine (clone_any b off ys.length cap (fun j => ys.getD j 0) w hlen hc hb).mono ?_
      rintro e w' ⟨rfl, hrow, hbel⟩
      exact ⟨_, _, rfl, .inr ⟨rfl, rfl, fun j hj => hrow.cell hj⟩, .inr hrow.lt, hbel⟩
    · have e0 : ys.length = 0 := by omega
      rw [e0]
      refine (clone_empty' x cap w).mono ?_
      rintro e w' ⟨rfl, hbel, hlt⟩
      exact ⟨_, _, rfl, .inr ⟨rfl, e0.symm, fun j hj => by omega⟩, .inr hlt, hbel⟩

theorem Cloned.none {B : Nat} {w' : World} {ao : Option Addr} {c : Nat} {ys : List Int} (h : Cloned B w' ao c ys) : ao = none → ys.length = 0 ∧ c = 0 := by
  rcases h with ⟨_, h1, h2⟩ | ⟨h, _⟩
  · exact fun _ => ⟨h1, h2⟩
  · intro e; rw [h] at e; cases e

theorem Cloned.cells {B : Nat} {w' wx : World} {ao : Option Addr} {c : Nat} {ys : List Int} (h : Cloned B w' ao c ys) (hk : ∀ a v, a.block = B → w'.cell? a = some v → wx.cell? a = some v) :
    ∀ ad, ao = some ad → ∀ j u, (ys.map (Value.int .u8))[j]? = some u → wx.cell? (ad.add j) = some u := by
  intro ad had j u hj
  rcases h with ⟨h, _⟩ | ⟨h, _, hc⟩
  · rw [h] at had; cases had
  · rw [h] at had; cases had
    obtain ⟨hl, rfl⟩ := map_get hj
    rw [Go.WideShapes.add_plain, Nat.zero_add]
    exact hk _ _ rfl (hc j hl)

set_option maxHeartbeats 4000000 in
set_option maxRecDepth 100000 in
theorem law_core (a0 a1 a2 : Option Addr) (cap0 cap1 cap2 : Nat) (ps ss ts : List Int) (w : World) (hsum : ps.length + ss.length + ts.length ≤ 1048576) (hs : ss.length ≤ 131072)
    (h0 : CameIn w a0 cap0 ps) (h1 : CameIn w a1 cap1 ss) (h2 : CameIn w a2 cap2 ts) (y0 : ∀ y ∈ ps, 0 ≤ y ∧ y ≤ 255) (y1 : ∀ y ∈ ss, 0 ≤ y ∧ y ≤ 255) (y2 : ∀ y ∈ ts, 0 ≤ y ∧ y ≤ 255) :
    Calls Trym.prog 5 #[.slice a0 ps.length cap0, .slice a1 ss.length cap1, .slice a2 ts.length cap2] w fun e w' => e = .returned (.bool true) ∧ Below w.heap.size w w' := by
  obtain ⟨i0, hi, hz0, hz1, hz2⟩ := info_parts Trym.info5
  have H0 := hide h0
  have H1 := hide h1
  have H2 := hide h2
  have Y0 := hide y0
  have Y1 := hide y1
  have Y2 := hide y2
  clear h0 h1 h2 y0 y1 y2
  obtain ⟨P, HP⟩ : ∃ n, Hid (ps.length = n) := ⟨_, rfl⟩
  obtain ⟨S, HS⟩ : ∃ n, Hid (ss.length = n) := ⟨_, rfl⟩
  obtain ⟨T, HT⟩ : ∃ n, Hid (ts.length = n) := ⟨_, rfl⟩
  rw [HP.out, HS.out, HT.out] at hsum
  rw [HS.out] at hs
  rw [HP.out, HS.out, HT.out]
  have d0 : decide ((1048576 : Int) < (P : Int)) = false := by simp; omega
  have d1 : decide ((131072 : Int) < (S : Int)) = false := by simp; omega
  have d2 : decide ((1048576 : Int) < (T : Int)) = false := by simp; omega
  go_enter Trym.func5, Trym.ntmps5
  go_wp2_with (first | (go_at_call 16; go_in))
  clear d0 d1 d2
  rw [← HP.out]
  refine (clone_strong a0 cap0 ps w (by rw [HP.out]; omega) H0.out).mono ?_
  rintro e w1 ⟨ao0, c0, rfl, hC0, hz0', hB0⟩
  rw [HP.out]
  have C0 := hide hC0
  have B0 := hide hB0
  have Z0 := hide hz0'
  clear hC0 hB0 hz0'
  go_wp2_with fail
  rw [← HS.out]
  refine (clone_strong a1 cap1 ss w1 (by rw [HS.out]; omega) (H1.out.later B0.out)).mono ?_
  rintro e w2 ⟨ao1, c1, rfl, hC1, hz1', hB1⟩
  rw [HS.out]
  have C1 := hide hC1
  have B1 := hide hB1
  have Z1 := hide hz1'
  clear hC1 hB1 hz1'
  go_wp2_with fail
  rw [← HT.out]
  refine (clone_strong a2 cap2 ts w2 (by rw [HT.out]; omega) ((H2.out.later B0.out).later B1.out)).mono ?_
  rintro e w3 ⟨ao2, c2, rfl, hC2, hz2', hB2⟩
  rw [HT.out]
  have C2 := hide hC2
  have B2 := hide hB2
  have Z2 := hide hz2'
  clear hC2 hB2 hz2'
  have K0 : Hid (∀ (wx : World), w3.grownBy wx none → ∀ a v, a.block = w.heap.size → w1.cell? a = some v → wx.cell? a = some v) := fun wx hg a v _ h => hg.cell (cell_later B2.out (cell_later B1.out h)) (by simp)
  go_wp2_with (first
    | (at_make; refine wpList_make_own _ rfl _ _ 22 rfl w3.heap.size 5 i0 (.int .u8 0) 1 Trym.underlying22 hi hz0 hz1 .i64 .i64 _ (P + 6 * S + T + 2) rfl rfl (by omega) (by rw [hz2]; omega) (by unfold maxLen; omega) (Nat.le_refl _) ?_; intro w4 hown4 hgrow4)
    | (at_builtin; refine wpList_append_fits_any _ rfl (.tmp 57) (.tmp 58) 22 rfl w3.heap.size 5 i0 1 Trym.underlying22 hi hz1 w3.heap.size 0 (P + 6 * S + T + 2) [] rfl hown4 ao0 P c0 (ps.map (Value.int .u8)) rfl (by simp [HP.out]) (fun h => ⟨HP.out ▸ (C0.out.none h).1, (C0.out.none h).2⟩) (C0.out.cells (K0.out _ hgrow4)) (ints_oneCell _ _) (by omega) ?_; intro w5 hown5 hgrow5; simp only [Nat.zero_add, List.nil_append] at hown5)
    | (at_builtin; refine wpList_append_fits _ rfl (.tmp 62) (.tmp 63) 22 rfl w3.heap.size 5 i0 1 Trym.underlying22 hi hz1 w3.heap.size P (P + 6 * S + T + 2) _ rfl (hown5.alloc _) ⟨w5.heap.size, 0, none⟩ 1 1 [.int .u8 34] rfl rfl (cell_one_new _ _ _) (ints_oneCell .u8 [34]) (by omega) ?_; intro w6 hown6 hgrow6))
  have b4 := (Below.refl w3.heap.size w3).grown hgrow4 (Nat.le_refl _) (fun k hk => by cases hk)
  have b5 := b4.grown hgrow5 b4.size (fun k hk => by cases hk; exact Nat.le_refl _)
  have b6 := (b5.alloc b5.size _).grown hgrow6 (by have := b5.size; simp; omega) (fun k hk => by cases hk; exact Nat.le_refl _)
  have O6 := hide hown6
  have B6 := hide b6
  clear hown4 hown5 hown6 hgrow4 hgrow5 hgrow6 b4 b5 b6
  go_loopw [7, 9] (fun v7 v9 wr => ∃ (j : Nat) (l : List Int), j ≤ S ∧ v9 = .int .i64 j ∧ Pieces j l ∧ v7 = .slice (some ⟨w3.heap.size, 0, none⟩) (P + 1 + l.length) (P + 6 * S + T + 2) ∧
      wr.ownsRow w3.heap.size 5 1 (.slice (some ⟨w3.heap.size, 0, none⟩) (P + 1 + l.length) (P + 6 * S + T + 2)) (P + 1 + l.length) ((ps ++ [34] ++ l).map (Value.int .u8)) ∧ Below w3.heap.size w3 wr) (fun _ v9 _ => S - (intOf v9).toNat)
  case atStart => exact ⟨0, [], Nat.zero_le _, rfl, rfl, rfl, by simpa using O6.out, B6.out⟩
  case round =>
    obtain ⟨j, l, hj, rfl, hPc, rfl, hown, hbel⟩ := hrel
    have hll := pieces_len hPc
    have HPc := hide hPc
    have HO := hide hown
    have HB := hide hbel
    clear hPc hown hbel
    by_cases hlt : j < S
    · have hd : decide ((j : Int) < (S : Int)) = true := by simp; omega
      have hjs : j < ss.length := by rw [HS.out]; exact hlt
      rcases C1.out with ⟨_, e, _⟩ | ⟨rfl, hcl, hc⟩
      · omega
      clear hcl
      have hcell : wr.cell? ⟨w1.heap.size, j, none⟩ = some (.int .u8 (ss.getD j 0)) := by
        have h1 := cell_later B2.out (hc j hjs)
        exact cell_later HB.out h1
      have hbx := Y1.out _ (getD_mem hjs)
      obtain ⟨x, HX⟩ : ∃ x, Hid (x = ss.getD j 0) := ⟨_, rfl⟩
      rw [← HX.out] at hcell hbx
      clear hc
      go_wp2_with fail
      refine (escape_any w3.heap.size (P + 1 + l.length) (P + 6 * S + T + 2) w3.heap.size (ps ++ [34] ++ l) x wr (by omega) HO.out hbx).mono ?_
      rintro e wy ⟨pc, hpc, rfl, hown2, hgrow2⟩
      have HO2 := hide hown2
      have HB2 := hide (HB.out.grown hgrow2 HB.out.size (fun k hk => by cases hk; exact Nat.le_refl _))
      have HPc2 : Hid (Pieces (j + 1) (l ++ pc)) := ⟨l, pc, HPc.out, hpc, rfl⟩
      have hlen2 : Hid (P + 1 + (l ++ pc).length = P + 1 + l.length + pc.length) := by unfold Hid; rw [List.length_append]; omega
      clear hown2 hgrow2 hpc
      go_wp2
      go_roundw
      case rel => exact ⟨j + 1, l ++ pc, by omega, by go_num, HPc2.out, by rw [hlen2.out], by rw [hlen2.out, ← List.append_assoc]; exact HO2.out, HB2.out⟩
      case measure => simp [intOf]; omega
    · have hd : decide ((j : Int) < (S : Int)) = false := by simp; omega
      have hjS : j = S := by omega
      obtain ⟨X, HXl⟩ : ∃ X, Hid (P + 1 + l.length = X) := ⟨_, rfl⟩
      have hown := HO.out
      rw [HXl.out] at hown ⊢
      have hX1 : X ≤ P + 1 + 6 * S := by rw [← HXl.out]; omega
      have HJ := hide hjS
      clear hjS
      have K2 : Hid (∀ (wx : World), wr.grownBy wx (some w3.heap.size) → ∀ a v, a.block = w2.heap.size → w3.cell? a = some v → wx.cell? a = some v) := fun wx hg a v _ h => by
        have hlt := World.block_lt_of_cell? _ _ h
        exact hg.cell (cell_later HB.out h) (fun e => by have := Option.some.inj e; omega)
      go_wp2_with (first
        | (at_builtin; refine wpList_append_fits _ rfl (.tmp 77) (.tmp 78) 22 rfl w3.heap.size 5 i0 1 Trym.underlying22 hi hz1 w3.heap.size X (P + 6 * S + T + 2) _ rfl (hown.alloc _) ⟨wr.heap.size, 0, none⟩ 1 1 [.int .u8 34] rfl rfl (cell_one_new _ _ _) (ints_oneCell .u8 [34]) (by omega) ?_; intro w7 hown7 hgrow7)
        | (at_builtin; refine wpList_append_fits_any _ rfl (.tmp 82) (.tmp 83) 22 rfl w3.heap.size 5 i0 1 Trym.underlying22 hi hz1 w3.heap.size (X + 1) (P + 6 * S + T + 2) _ rfl hown7 ao2 T c2 (ts.map (Value.int .u8)) rfl (by simp [HT.out]) (fun h => ⟨HT.out ▸ (C2.out.none h).1, (C2.out.none h).2⟩) (C2.out.cells (K2.out _ ((World.grownBy_alloc _ _ _).trans hgrow7))) (ints_oneCell _ _) (by omega) ?_; intro w8 hown8 hgrow8)
        | (go_at_call 13; go_in))
      have bb := ((HB.out.alloc HB.out.size _).grown hgrow7 (by have := HB.out.size; simp; omega) (fun k hk => by cases hk; exact Nat.le_refl _))
      have bb8 := bb.grown hgrow8 bb.size (fun k hk => by cases hk; exact Nat.le_refl _)
      have HBF : Hid (Below w.heap.size w w8) := B0.out.trans ((B1.out.trans ((B2.out.trans (bb8.mono B2.out.size)).mono B1.out.size)).mono B0.out.size)
      have HO8 := hide hown8
      clear hown hown7 hown8 hgrow7 hgrow8 bb bb8
      obtain ⟨t1, t2, t3⟩ := text_facts (ps := ps) (ts := ts) HPc.out
      rw [HP.out, HXl.out] at t2 t3
      rw [HP.out] at t1
      have hlenF : (ps ++ [34] ++ l ++ [34] ++ ts).length = X + 1 + T := by
        simp only [List.length_append, List.length_cons, List.length_nil, HP.out, HT.out]
        have := HXl.out
        omega
      have hmapF : (ps ++ [34] ++ l).map (Value.int .u8) ++ [.int .u8 34] ++ ts.map (Value.int .u8) = (ps ++ [34] ++ l ++ [34] ++ ts).map (Value.int .u8) := by simp
      have o8 := HO8.out
      rw [hmapF] at o8
      generalize hF : ps ++ [34] ++ l ++ [34] ++ ts = F at t1 t2 t3 hlenF o8
      have hFu : ∀ t, 0 ≤ F.getD t 0 ∧ F.getD t 0 ≤ 255 := by
        intro t
        by_cases hlt : t < F.length
        · have hm := getD_mem hlt
          rw [← hF] at hm
          rw [← hF]
          simp only [List.mem_append, List.mem_singleton] at hm
          rcases hm with (((hm | hm) | hm) | hm) | hm
          · exact Y0.out _ hm
          · omega
          · exact pieces_u8 HPc.out _ hm
          · omega
          · exact Y2.out _ hm
        · rw [show F.getD t 0 = 0 by simp [List.getElem?_eq_none (show F.length ≤ t by omega)]]
          omega
      have hcl : ∀ t, t < X + 1 + T → w8.cell? ⟨w3.heap.size, 0 + t, none⟩ = some (.int .u8 (F.getD t 0)) := by
        intro t ht
        have := o8.cells rfl t _ (map_at (show t < F.length by omega))
        rw [Go.WideShapes.add_plain] at this
        exact this
      refine (skip_any w3.heap.size 0 (X + 1 + T) (P + 6 * S + T + 2) P X j (fun t => F.getD t 0) w8 (by omega) (by omega) (by omega) t1 t2 t3 hcl hFu).mono ?_
      clear t1 t2 t3 hlenF o8 hFu hcl hF hmapF
      rintro e wz ⟨rfl, rfl⟩
      go_wp2
      go_ret
      exact ⟨by simp, HBF.out⟩
end Go.Proofs.Qxb6602258aMods
