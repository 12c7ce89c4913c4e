/-
  'zzEscapeByte' (function 17): what it appends, and its walk.
-/
import Derived.Test.Qxb6602258aModsClone
import Derived.Deep.RegionLaw
import Derived.WalkLawsBesides
namespace Go.Proofs.Qxb6602258aMods
open Go.ChangeShapes Go.WideShapes Go.ChangeAt Go.RowKit
set_option linter.unusedVariables false

/-- append within the capacity, onto a row of one's own, as one step of a region that draws. -/
theorem step_append_fits {P : Program} {ops : Array Oper} {o : Oper} {a : Act} {w : World} {K : Act → World → Prop} {Q : Exit → Act → World → Prop} {E : Prop}
    (hg : o.guard = none) (s x : Operand) (t : TypeId) (hop : o.op = Op.call { callee := Callee.builtin Builtin.append, args := #[s, x], argTypes := #[t, t] })
    (base : Nat) (e : TypeId) (i : TypeInfo) (size : Nat) (h1 : P.underlying t = some (.slice e)) (h2 : P.info? e = some i) (h4 : i.size = size)
    (g k cap : Nat) (xs : List Value) (hs : a.eval s = .slice (some ⟨g, 0, none⟩) k cap) (hown : w.ownsRow base e size (.slice (some ⟨g, 0, none⟩) k cap) k xs) (ad : Addr) (m c : Nat) (news : List Value) (hx : a.eval x = .slice (some ad) m c) (hn : news.length = m * size)
    (hc : ∀ j u, news[j]? = some u → w.cell? (ad.add j) = some u) (h1c : ∀ u ∈ news, u.oneCell' = true) (b1 : k + m ≤ cap)
    (hK : ∀ w', w'.ownsRow base e size (.slice (some ⟨g, 0, none⟩) (k + m) cap) (k + m) (xs ++ news) → w.grownBy w' (some g) → K (a.put o.dst (.slice (some ⟨g, 0, none⟩) (k + m) cap)) w') :
    if Region.wanted o (yielded ops a.tmps) = true then Oper.wp P o a w K Q else E := by
  have hw : Region.wanted o (yielded ops a.tmps) = true := by simp [Region.wanted, hg]
  rw [if_pos hw]
  obtain ⟨w', hrun, r1, r2⟩ := run_append_fits (P := P) w base t o.type e i size h1 h2 h4 g k cap xs hown ad m c news hn hc h1c b1
  unfold Oper.wp
  simp [execOp, hop, resolve, invoke, builtin, hs, hx, hrun, Result.andThen]
  exact hK w' r1 r2

def short (c : Int) : Prop := c = 34 ∨ c = 92 ∨ c = 47 ∨ c = 98 ∨ c = 102 ∨ c = 110 ∨ c = 114 ∨ c = 116
def hexd (c : Int) : Prop := (48 ≤ c ∧ c ≤ 57) ∨ (97 ≤ c ∧ c ≤ 102) ∨ (65 ≤ c ∧ c ≤ 70)

/-- What stands for one byte of the payload. -/
def Piece (ps : List Int) : Prop :=
  (∃ c, ps = [c] ∧ 32 ≤ c ∧ c ≤ 255 ∧ c ≠ 34 ∧ c ≠ 92) ∨ (∃ d, ps = [92, d] ∧ short d) ∨ (∃ x y, ps = [92, 117, 48, 48, x, y] ∧ hexd x ∧ hexd y)

theorem cells_two (w : World) (x y : Value) (t : TypeId) : ∀ j u, [x, y][j]? = some u → (w.alloc (.cells #[x, y] t)).cell? ((⟨w.heap.size, 0, none⟩ : Addr).add j) = some u := by
  intro j u hj
  match j, hj with
  | 0, hj => simp at hj; subst hj; simp [Addr.add]
  | 1, hj => simp at hj; subst hj; simp [Addr.add]


theorem cells_six (w : World) (a0 a1 a2 a3 a4 a5 : Int) (t : TypeId) : ∀ j u, [Value.int .u8 a0, .int .u8 a1, .int .u8 a2, .int .u8 a3, .int .u8 a4, .int .u8 a5][j]? = some u →
    (w.alloc (.cells #[.int .u8 a0, .int .u8 a1, .int .u8 a2, .int .u8 a3, .int .u8 a4, .int .u8 a5] t)).drew.cell? ((⟨w.heap.size, 0, none⟩ : Addr).add j) = some u := by
  intro j u hj
  match j, hj with
  | 0, hj => simp at hj; subst hj; simp [Addr.add]
  | 1, hj => simp at hj; subst hj; simp [Addr.add]
  | 2, hj => simp at hj; subst hj; simp [Addr.add]
  | 3, hj => simp at hj; subst hj; simp [Addr.add]
  | 4, hj => simp at hj; subst hj; simp [Addr.add]
  | 5, hj => simp at hj; subst hj; simp [Addr.add]

theorem six_oneCell (a0 a1 a2 a3 a4 a5 : Int) : ∀ u ∈ [Value.int .u8 a0, .int .u8 a1, .int .u8 a2, .int .u8 a3, .int .u8 a4, .int .u8 a5], u.oneCell' = true :=
  ints_oneCell .u8 [a0, a1, a2, a3, a4, a5]


theorem grown_drew {w w' : World} {row : Option Nat} (h : w.grownBy w' row) : w.grownBy w'.drew row := ⟨h.os, h.tape, h.output, h.size, h.block⟩

theorem up_hex (i : Nat) (h : i < 16) (h' : i < (⟨#[48, 49, 50, 51, 52, 53, 54, 55, 56, 57, 65, 66, 67, 68, 69, 70]⟩ : ByteArray).size) :
    hexd (((⟨#[48, 49, 50, 51, 52, 53, 54, 55, 56, 57, 65, 66, 67, 68, 69, 70]⟩ : ByteArray)[i]'h').toNat : Int) := by
  unfold hexd
  match i, h with
  | 0, _ | 1, _ | 2, _ | 3, _ | 4, _ | 5, _ | 6, _ | 7, _ | 8, _ | 9, _ | 10, _ | 11, _ | 12, _ | 13, _ | 14, _ | 15, _ => decide +revert
  | m + 16, h => omega
theorem low_hex (i : Nat) (h : i < 16) (h' : i < (⟨#[48, 49, 50, 51, 52, 53, 54, 55, 56, 57, 97, 98, 99, 100, 101, 102]⟩ : ByteArray).size) :
    hexd (((⟨#[48, 49, 50, 51, 52, 53, 54, 55, 56, 57, 97, 98, 99, 100, 101, 102]⟩ : ByteArray)[i]'h').toNat : Int) := by
  unfold hexd
  match i, h with
  | 0, _ | 1, _ | 2, _ | 3, _ | 4, _ | 5, _ | 6, _ | 7, _ | 8, _ | 9, _ | 10, _ | 11, _ | 12, _ | 13, _ | 14, _ | 15, _ => decide +revert
  | m + 16, h => omega

/-- What each call of 'zzEscapeByte' leaves. -/
def Escaped (w w' : World) (g k cap base : Nat) (xs : List Int) (e : Ending) : Prop :=
  ∃ ps, Piece ps ∧ e = .returned (.slice (some ⟨g, 0, none⟩) (k + ps.length) cap) ∧ w'.ownsRow base 5 1 (.slice (some ⟨g, 0, none⟩) (k + ps.length) cap) (k + ps.length) ((xs ++ ps).map (Value.int .u8)) ∧ w.grownBy w' (some g)

/-- None of the eight short ones. -/
def plain8 (c : Int) : Prop := (c == 34) = false ∧ (c == 92) = false ∧ (c == 47) = false ∧ (c == 8) = false ∧ (c == 12) = false ∧ (c == 10) = false ∧ (c == 13) = false ∧ (c == 9) = false

set_option maxHeartbeats 1000000 in
theorem escape_up (g k cap base : Nat) (xs : List Int) (c lo : Int) (w : World) (hk : k + 6 ≤ cap) (hown : w.ownsRow base 5 1 (.slice (some ⟨g, 0, none⟩) k cap) k (xs.map (Value.int .u8)))
    (hcb : 0 ≤ c ∧ c ≤ 255) (h32 : (decide (c < 32) = true) ∨ (decide (c < 32) = false ∧ (c == 127) = true)) (h8 : plain8 c)
    (e1 : (bits .and .u8 c 1 == 0) = true) (e15 : bits .and .u8 c 15 = lo) (hl0 : 0 ≤ lo) (hl1 : lo < 16) :
    Calls Trym.prog 17 #[.slice (some ⟨g, 0, none⟩) k cap, .int .u8 c] w fun e w' => Escaped w w' g k cap base xs e := by
  obtain ⟨i0, hi, hz0, hz1, hz2⟩ := info_parts Trym.info5
  obtain ⟨e34, e92, e47, e8, e12, e10, e13, e9⟩ := h8
  have HO := hide hown
  clear hown
  have hq0 : 0 ≤ c / 16 := by omega
  have hq1 : c / 16 < 16 := by omega
  rcases h32 with h32 | ⟨h32, e127⟩
  all_goals
    go_enter Trym.func17, Trym.ntmps17
    go_wp2
    go_region_law (refine step_append_fits rfl (.tmp 55) (.tmp 62) 22 rfl base 5 i0 1 Trym.underlying22 hi hz1 g k cap _ (by simp [Act.eval]) (HO.out.alloc _).drew ⟨w.heap.size, 0, none⟩ 6 6 _ (by simp [Act.eval]) (by rfl) (cells_six _ _ _ _ _ _ _ _) (six_oneCell _ _ _ _ _ _) (by omega) ?_; intro w1 hown1 hgrow1)
    all_goals
      go_wp2
      go_ret
      exact ⟨[92, 117, 48, 48, _, _], .inr (.inr ⟨_, _, rfl, up_hex (c / 16).toNat (by omega) _, up_hex lo.toNat (by omega) _⟩), rfl, by simpa using hown1, (grown_drew (World.grownBy_alloc _ _ _)).trans hgrow1⟩

set_option maxHeartbeats 1000000 in
theorem escape_low (g k cap base : Nat) (xs : List Int) (c lo : Int) (w : World) (hk : k + 6 ≤ cap) (hown : w.ownsRow base 5 1 (.slice (some ⟨g, 0, none⟩) k cap) k (xs.map (Value.int .u8)))
    (hcb : 0 ≤ c ∧ c ≤ 255) (h32 : (decide (c < 32) = true) ∨ (decide (c < 32) = false ∧ (c == 127) = true)) (h8 : plain8 c)
    (e1 : (bits .and .u8 c 1 == 0) = false) (e15 : bits .and .u8 c 15 = lo) (hl0 : 0 ≤ lo) (hl1 : lo < 16) :
    Calls Trym.prog 17 #[.slice (some ⟨g, 0, none⟩) k cap, .int .u8 c] w fun e w' => Escaped w w' g k cap base xs e := by
  obtain ⟨i0, hi, hz0, hz1, hz2⟩ := info_parts Trym.info5
  obtain ⟨e34, e92, e47, e8, e12, e10, e13, e9⟩ := h8
  have HO := hide hown
  clear hown
  have hq0 : 0 ≤ c / 16 := by omega
  have hq1 : c / 16 < 16 := by omega
  rcases h32 with h32 | ⟨h32, e127⟩
  all_goals
    go_enter Trym.func17, Trym.ntmps17
    go_wp2
    go_region_law (refine step_append_fits rfl (.tmp 64) (.tmp 71) 22 rfl base 5 i0 1 Trym.underlying22 hi hz1 g k cap _ (by simp [Act.eval]) (HO.out.alloc _).drew ⟨w.heap.size, 0, none⟩ 6 6 _ (by simp [Act.eval]) (by rfl) (cells_six _ _ _ _ _ _ _ _) (six_oneCell _ _ _ _ _ _) (by omega) ?_; intro w1 hown1 hgrow1)
    all_goals
      go_wp2
      go_ret
      exact ⟨[92, 117, 48, 48, _, _], .inr (.inr ⟨_, _, rfl, low_hex (c / 16).toNat (by omega) _, low_hex lo.toNat (by omega) _⟩), rfl, by simpa using hown1, (grown_drew (World.grownBy_alloc _ _ _)).trans hgrow1⟩

theorem fin_two {w w1 : World} {g k cap base : Nat} {xs : List Int} {d : Int} (h : w1.ownsRow base 5 1 (.slice (some ⟨g, 0, none⟩) (k + 2) cap) (k + 2) (xs.map (Value.int .u8) ++ [.int .u8 92, .int .u8 d]))
    (hg : w.grownBy w1 (some g)) (hd : short d) : Escaped w w1 g k cap base xs (.returned (.slice (some ⟨g, 0, none⟩) (k + 2) cap)) :=
  ⟨[92, d], .inr (.inl ⟨d, rfl, hd⟩), rfl, by simpa using h, hg⟩

set_option maxHeartbeats 1000000 in
theorem escape_two (g k cap base : Nat) (xs : List Int) (c : Int) (w : World) (hk : k + 6 ≤ cap) (hown : w.ownsRow base 5 1 (.slice (some ⟨g, 0, none⟩) k cap) k (xs.map (Value.int .u8)))
    (hc : c = 34 ∨ c = 92 ∨ c = 47 ∨ c = 8 ∨ c = 12 ∨ c = 10 ∨ c = 13 ∨ c = 9) :
    Calls Trym.prog 17 #[.slice (some ⟨g, 0, none⟩) k cap, .int .u8 c] w fun e w' => Escaped w w' g k cap base xs e := by
  obtain ⟨i0, hi, hz0, hz1, hz2⟩ := info_parts Trym.info5
  rcases hc with rfl | rfl | rfl | rfl | rfl | rfl | rfl | rfl
  all_goals
    go_enter Trym.func17, Trym.ntmps17
    go_wp2_with (at_builtin; refine wpList_append_fits _ rfl _ _ 22 rfl base 5 i0 1 Trym.underlying22 hi hz1 g k cap _ rfl (hown.alloc _) ⟨w.heap.size, 0, none⟩ 2 2 [.int .u8 _, .int .u8 _] rfl rfl (cells_two _ _ _ _) (ints_oneCell .u8 [_, _]) (by omega) ?_; intro w1 hown1 hgrow1)
    go_ret
    exact fin_two hown1 ((World.grownBy_alloc _ _ _).trans hgrow1) (by unfold short; omega)

set_option maxHeartbeats 1000000 in
theorem escape_one (g k cap base : Nat) (xs : List Int) (c : Int) (w : World) (hk : k + 6 ≤ cap) (hown : w.ownsRow base 5 1 (.slice (some ⟨g, 0, none⟩) k cap) k (xs.map (Value.int .u8)))
    (hcb : 32 ≤ c ∧ c ≤ 255) (h32 : decide (c < 32) = false) (h127 : (c == 127) = false) (h8 : plain8 c) (hne : Hid (c ≠ 34 ∧ c ≠ 92)) :
    Calls Trym.prog 17 #[.slice (some ⟨g, 0, none⟩) k cap, .int .u8 c] w fun e w' => Escaped w w' g k cap base xs e := by
  obtain ⟨i0, hi, hz0, hz1, hz2⟩ := info_parts Trym.info5
  obtain ⟨e34, e92, e47, e8, e12, e10, e13, e9⟩ := h8
  go_enter Trym.func17, Trym.ntmps17
  go_wp2_with (at_builtin; refine wpList_append_fits _ rfl _ _ 22 rfl base 5 i0 1 Trym.underlying22 hi hz1 g k cap _ rfl (hown.alloc _) ⟨w.heap.size, 0, none⟩ 1 1 [.int .u8 c] rfl rfl (cell_one_new _ _ _) (ints_oneCell .u8 [c]) (by omega) ?_; intro w1 hown1 hgrow1)
  go_ret
  exact ⟨[c], .inl ⟨c, rfl, hcb.1, hcb.2, hne.out⟩, rfl, by simpa using hown1, (World.grownBy_alloc _ _ _).trans hgrow1⟩

theorem and15 (c : Int) (h0 : 0 ≤ c) (h1 : c ≤ 127) : 0 ≤ bits .and .u8 c 15 ∧ bits .and .u8 c 15 < 16 := by
  obtain ⟨n, rfl⟩ := Int.eq_ofNat_of_zero_le h0
  have hn : n < 128 := by omega
  clear h0 h1
  revert n
  decide

theorem escape_any (g k cap base : Nat) (xs : List Int) (c : Int) (w : World) (hk : k + 6 ≤ cap) (hown : w.ownsRow base 5 1 (.slice (some ⟨g, 0, none⟩) k cap) k (xs.map (Value.int .u8)))
    (hcb : 0 ≤ c ∧ c ≤ 255) : Calls Trym.prog 17 #[.slice (some ⟨g, 0, none⟩) k cap, .int .u8 c] w fun e w' => Escaped w w' g k cap base xs e := by
  by_cases h2 : c = 34 ∨ c = 92 ∨ c = 47 ∨ c = 8 ∨ c = 12 ∨ c = 10 ∨ c = 13 ∨ c = 9
  · exact escape_two g k cap base xs c w hk hown h2
  have h8 : plain8 c := by unfold plain8; simp; omega
  by_cases h6 : c < 32 ∨ c = 127
  · have h32 : (decide (c < 32) = true) ∨ (decide (c < 32) = false ∧ (c == 127) = true) := by simp; omega
    have hl := and15 c hcb.1 (by omega)
    by_cases e1 : (bits .and .u8 c 1 == 0) = true
    · exact escape_up g k cap base xs c _ w hk hown hcb h32 h8 e1 rfl hl.1 hl.2
    · exact escape_low g k cap base xs c _ w hk hown hcb h32 h8 (by simpa using e1) rfl hl.1 hl.2
  · exact escape_one g k cap base xs c w hk hown (by omega) (by simp; omega) (by simp; omega) h8 (by unfold Hid; omega)
end Go.Proofs.Qxb6602258aMods
