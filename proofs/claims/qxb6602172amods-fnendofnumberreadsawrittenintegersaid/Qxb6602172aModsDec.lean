/-
  'decimal' (function 20): an int64 written in base ten: its walk.
-/
import Derived.Test.Qxb6602172aModsClone
import Derived.Deep.Light
namespace Go.Proofs.Qxb6602172aMods
open Go.ChangeShapes Go.WideShapes Go.ChangeAt Go.RowKit
set_option linter.unusedVariables false

/-- Digits alone, at least one, no leading zero but for the single "0". -/
def Wr (xs : List Int) : Prop := 1 ≤ xs.length ∧ (∀ x ∈ xs, 48 ≤ x ∧ x ≤ 57) ∧ (xs.getD 0 0 = 48 → xs.length = 1)

/-- What is written so far: places p .. 19 of the buffer. -/
def tl (g : Nat → Int) (q : Nat) : List Int := (List.range (20 - q)).map fun j => g (q + j)

/-- The loop's state. -/
def DecS (w wr : World) (u p : Nat) : Prop :=
  ∃ g : Nat → Int, 2 ≤ p ∧ p ≤ 20 ∧ u < 10 ^ (p - 1) ∧ (p < 20 → 0 < u) ∧ (∀ j, p ≤ j → j < 20 → 48 ≤ g j ∧ g j ≤ 57) ∧
    wr.rowIs w.heap.size 33 20 (fun j => .int .u8 (g j)) ∧ Below w.heap.size w wr ∧ wr.heap.size = w.heap.size + 1

theorem dec_start (w : World) (u : Nat) (hu : u ≤ 9223372036854775808) :
    DecS w (w.alloc (.cells #[.int .u8 0, .int .u8 0, .int .u8 0, .int .u8 0, .int .u8 0, .int .u8 0, .int .u8 0, .int .u8 0, .int .u8 0, .int .u8 0, .int .u8 0, .int .u8 0, .int .u8 0, .int .u8 0, .int .u8 0, .int .u8 0, .int .u8 0, .int .u8 0, .int .u8 0, .int .u8 0] 33)) u 20 := by
  refine ⟨fun _ => 0, by omega, by omega, ?_, fun h => by omega, fun j a b => by omega, ?_, (Below.refl _ _).alloc (Nat.le_refl _) _, by simp⟩
  · have : (10 : Nat) ^ (20 - 1) = 10000000000000000000 := by decide
    omega
  · refine World.rowIs_alloc w _ 33 _ ?_
    intro i hi
    simp at hi
    match i, hi with
    | m + 20, h => omega
    | 0, _ | 1, _ | 2, _ | 3, _ | 4, _ | 5, _ | 6, _ | 7, _ | 8, _ | 9, _ | 10, _ | 11, _ | 12, _ | 13, _ | 14, _ | 15, _ | 16, _ | 17, _ | 18, _ | 19, _ => rfl

theorem dec_bound {w wr : World} {u p : Nat} (h : DecS w wr u p) : u < 10000000000000000000 := by
  obtain ⟨g, h1, h2, h3, _⟩ := h
  have h4 : (10 : Nat) ^ (p - 1) ≤ 10 ^ 19 := Nat.pow_le_pow_right (by omega) (by omega)
  have : (10 : Nat) ^ 19 = 10000000000000000000 := by decide
  omega

/-- What the round's store needs. -/
theorem dec_cell {w wr : World} {u q : Nat} (h : DecS w wr u (q + 1)) : (∃ v, wr.cell? ⟨w.heap.size, q, none⟩ = some v) ∧ wr.frozen? ⟨w.heap.size, q, none⟩ = false ∧ 1 ≤ q ∧ q ≤ 19 := by
  obtain ⟨g, h1, h2, h3, h4, h5, h6, _⟩ := h
  exact ⟨⟨_, h6.cell (by omega)⟩, h6.frozen q, by omega, by omega⟩

theorem dec_next {w wr : World} {u q : Nat} {x : Int} (h : DecS w wr u (q + 1)) (hx : x = 48 + (u : Int) % 10) (hu : u / 10 ≠ 0) :
    DecS w (wr.setCell ⟨w.heap.size, q, none⟩ (.int .u8 x)) (u / 10) q := by
  obtain ⟨g, h1, h2, h3, h4, h5, h6, h7, h8⟩ := h
  have hq : 2 ≤ q := by
    by_cases e : q = 1
    · subst e; simp at h3; omega
    · omega
  refine ⟨fun j => if j = q then x else g j, hq, by omega, ?_, fun _ => by omega, ?_, ?_, h7.setCell (by simp) _, by simpa using h8⟩
  · obtain ⟨m, rfl⟩ : ∃ m, q = m + 1 := ⟨q - 1, by omega⟩
    simp at h3 ⊢
    rw [Nat.pow_succ] at h3
    omega
  · intro j a b
    by_cases e : j = q
    · subst e; simp; omega
    · simp [e]; exact h5 j (by omega) b
  · refine (h6.set q _).congr fun j hj => ?_
    by_cases e : j = q
    · simp [e]
    · simp [e]

theorem tl_get (g : Nat → Int) (q j : Nat) (v : Value) (h : ((tl g q).map (Value.int .u8))[j]? = some v) : q + j < 20 ∧ v = .int .u8 (g (q + j)) := by
  unfold tl at h
  simp only [List.map_map, List.getElem?_map, Option.map_eq_some_iff] at h
  obtain ⟨a, ha, hv⟩ := h
  by_cases e : j < 20 - q
  · rw [List.getElem?_range e] at ha
    cases ha
    exact ⟨by omega, hv.symm⟩
  · rw [List.getElem?_eq_none (by simpa using e)] at ha
    cases ha

/-- Where the loop ends. -/
theorem dec_last {w wr : World} {u q : Nat} {x : Int} (h : DecS w wr u (q + 1)) (hx : x = 48 + (u : Int) % 10) (hu : u / 10 = 0) :
    ∃ g : Nat → Int, Wr (tl g q) ∧ (tl g q).length = 20 - q ∧ (wr.setCell ⟨w.heap.size, q, none⟩ (.int .u8 x)).rowIs w.heap.size 33 20 (fun j => .int .u8 (g j)) ∧
      Below w.heap.size w (wr.setCell ⟨w.heap.size, q, none⟩ (.int .u8 x)) ∧ (wr.setCell ⟨w.heap.size, q, none⟩ (.int .u8 x)).heap.size = w.heap.size + 1 := by
  obtain ⟨g, h1, h2, h3, h4, h5, h6, h7, h8⟩ := h
  refine ⟨fun j => if j = q then x else g j, ⟨?_, ?_, ?_⟩, ?_, ?_, h7.setCell (by simp) _, by simpa using h8⟩
  · simp [tl]; omega
  · intro y hy
    unfold tl at hy
    obtain ⟨j, hj, rfl⟩ := List.mem_map.1 hy
    have hj' := List.mem_range.1 hj
    by_cases e : j = 0
    · subst e; simp; omega
    · simp [e]; exact h5 (q + j) (by omega) (by omega)
  · intro hz
    have e : (tl (fun j => if j = q then x else g j) q).getD 0 0 = x := by
      unfold tl
      obtain ⟨m, hm⟩ : ∃ m, 20 - q = m + 1 := ⟨19 - q, by omega⟩
      rw [hm, List.range_succ_eq_map]
      simp
    rw [e] at hz
    simp [tl]
    by_cases e2 : q = 19
    · omega
    · have := h4 (by omega); omega
  · simp [tl]
  · refine (h6.set q _).congr fun j hj => ?_
    by_cases e : j = q
    · simp [e]
    · simp [e]

theorem row_cells {wx : World} {B q : Nat} {g : Nat → Int} {j : Nat} {u : Value} (h : wx.rowIs B 33 20 (fun j => .int .u8 (g j))) (hj : ((tl g q).map (Value.int .u8))[j]? = some u) :
    wx.cell? ((⟨B, q, none⟩ : Addr).add j) = some u := by
  obtain ⟨h1, rfl⟩ := tl_get g q j u hj
  rw [Go.WideShapes.add_plain]
  exact h.cell h1

theorem neg_wrap {n : Int} (h0 : n < 0) (h1 : -9223372036854775808 ≤ n) : IntKind.u64.wrap (-IntKind.u64.wrap n) = ((-n).toNat : Int) := by
  simp [IntKind.wrap, IntKind.bits, IntKind.signed]
  omega

set_option maxHeartbeats 1000000 in
theorem dec_pos (n : Nat) (w : World) (h1 : n ≤ 9223372036854775807) :
    Calls Trym.prog 20 #[.int .i64 (n : Int)] w fun e w' => ∃ xs : List Int, Wr xs ∧ xs.length ≤ 20 ∧
      e = .returned (.slice (some ⟨w.heap.size + 1, 0, none⟩) xs.length 21) ∧
      w'.ownsRow w.heap.size 5 1 (.slice (some ⟨w.heap.size + 1, 0, none⟩) xs.length 21) xs.length (xs.map (Value.int .u8)) ∧ Below w.heap.size w w' := by
  obtain ⟨i0, hi, hz0, hz1, hz2⟩ := info_parts Trym.info5
  go_enter Trym.func20, Trym.ntmps20
  go_wp2
  go_loopw [3, 5] (fun v3 v5 wr => ∃ u p : Nat, v3 = .int .u64 u ∧ v5 = .int .i64 p ∧ DecS w wr u p) (fun _ v5 _ => (intOf v5).toNat)
  case atStart => exact ⟨n, 20, rfl, rfl, dec_start w n (by omega)⟩
  case round =>
    obtain ⟨u, p, rfl, rfl, hS⟩ := hrel
    have hp2 : 2 ≤ p := by obtain ⟨g, h, _⟩ := hS; exact h
    obtain ⟨q, rfl⟩ : ∃ q, p = q + 1 := ⟨p - 1, by omega⟩
    obtain ⟨⟨v0, hv⟩, hfr, hq1, hq2⟩ := dec_cell hS
    have hub := dec_bound hS
    have HS := hide hS
    clear hS hp2
    by_cases hu : u / 10 = 0
    · have e0 : ((u : Int) / 10 == 0) = true := by simp; omega
      have HU := hide hu
      clear hu
      obtain ⟨g, hW, hl, hrow, hbel, hsz⟩ := dec_last HS.out rfl HU.out
      have hwz : wr.heap.size = w.heap.size + 1 := by simpa using hsz
      have HW := hide hW
      have HL := hide hl
      have HR := hide hrow
      have HB := hide hbel
      have hq20 : (q : Int) ≤ 20 := by omega
      have hqn : ¬ (20 : Nat) = q := by omega
      clear hW hl hrow hbel hsz
      go_wp2_with (first
        | (at_make; refine wpList_make_own _ rfl _ _ 23 rfl w.heap.size 5 i0 (.int .u8 0) 1 Trym.underlying23 hi hz0 hz1 .i64 .i64 21 21 rfl rfl rfl (by rw [hz2]; decide) (by unfold maxLen; decide) (by simp [hwz]) ?_; intro w0 hown0 hgrow0; simp only [World.size_setCell, hwz] at hown0)
        | (at_builtin; refine wpList_append_fits _ rfl (.tmp 31) (.tmp 33) 23 rfl w.heap.size 5 i0 1 Trym.underlying23 hi hz1 (w.heap.size + 1) 0 21 [] rfl hown0 ⟨w.heap.size, q, none⟩ (20 - q) (20 - q) ((tl g q).map (Value.int .u8)) rfl (by simp [HL.out]) (fun j u hj => hgrow0.cell (row_cells HR.out hj) (by simp)) (ints_oneCell _ _) (by omega) ?_; intro w1 hown1 hgrow1))
      go_ret
      have hlen := HL.out
      refine ⟨tl g q, HW.out, by omega, ?_, ?_, ?_⟩
      · rw [hlen]; simp
      · rw [hlen]; simpa using hown1
      · exact (HB.out.grown hgrow0 HB.out.size (fun k hk => by cases hk)).grown hgrow1 (Nat.le_trans HB.out.size hgrow0.size) (fun k hk => by cases hk; omega)
    · have e0 : ((u : Int) / 10 == 0) = false := by simp; omega
      have HU := hide hu
      clear hu
      go_wp2
      go_roundw
      case rel => exact ⟨u / 10, q, by go_num, by go_num, dec_next HS.out rfl HU.out⟩
      case measure => simp [intOf]

set_option maxHeartbeats 1000000 in
theorem dec_neg (n : Int) (w : World) (h0 : n < 0) (h1 : -9223372036854775808 ≤ n) :
    Calls Trym.prog 20 #[.int .i64 n] w fun e w' => ∃ xs : List Int, Wr xs ∧ xs.length ≤ 20 ∧
      e = .returned (.slice (some ⟨w.heap.size + 1, 0, none⟩) (1 + xs.length) 21) ∧
      w'.ownsRow w.heap.size 5 1 (.slice (some ⟨w.heap.size + 1, 0, none⟩) (1 + xs.length) 21) (1 + xs.length) ((45 :: xs).map (Value.int .u8)) ∧ Below w.heap.size w w' := by
  obtain ⟨i0, hi, hz0, hz1, hz2⟩ := info_parts Trym.info5
  have HN := hide (neg_wrap h0 h1)
  go_enter Trym.func20, Trym.ntmps20
  go_wp2
  go_loopw [3, 5] (fun v3 v5 wr => ∃ u p : Nat, v3 = .int .u64 u ∧ v5 = .int .i64 p ∧ DecS w wr u p) (fun _ v5 _ => (intOf v5).toNat)
  case atStart => exact ⟨(-n).toNat, 20, congrArg (Value.int .u64) HN.out, rfl, dec_start w _ (by omega)⟩
  case round =>
    obtain ⟨u, p, rfl, rfl, hS⟩ := hrel
    have hp2 : 2 ≤ p := by obtain ⟨g, h, _⟩ := hS; exact h
    obtain ⟨q, rfl⟩ : ∃ q, p = q + 1 := ⟨p - 1, by omega⟩
    obtain ⟨⟨v0, hv⟩, hfr, hq1, hq2⟩ := dec_cell hS
    have hub := dec_bound hS
    have HS := hide hS
    clear hS hp2
    by_cases hu : u / 10 = 0
    · have e0 : ((u : Int) / 10 == 0) = true := by simp; omega
      have HU := hide hu
      clear hu
      obtain ⟨g, hW, hl, hrow, hbel, hsz⟩ := dec_last HS.out rfl HU.out
      have hwz : wr.heap.size = w.heap.size + 1 := by simpa using hsz
      have HW := hide hW
      have HL := hide hl
      have HR := hide hrow
      have HB := hide hbel
      have hq20 : (q : Int) ≤ 20 := by omega
      have hqn : ¬ (20 : Nat) = q := by omega
      clear hW hl hrow hbel hsz
      go_wp2_with (first
        | (at_make; refine wpList_make_own _ rfl _ _ 23 rfl w.heap.size 5 i0 (.int .u8 0) 1 Trym.underlying23 hi hz0 hz1 .i64 .i64 21 21 rfl rfl rfl (by rw [hz2]; decide) (by unfold maxLen; decide) (by simp [hwz]) ?_; intro w0 hown0 hgrow0; simp only [World.size_setCell, hwz] at hown0)
        | (at_builtin; refine wpList_append_fits _ rfl (.tmp 28) (.tmp 29) 23 rfl w.heap.size 5 i0 1 Trym.underlying23 hi hz1 (w.heap.size + 1) 0 21 [] rfl (hown0.alloc _) ⟨w0.heap.size, 0, none⟩ 1 1 [.int .u8 45] rfl rfl (cell_one_new _ _ _) (ints_oneCell .u8 [45]) (by omega) ?_; intro w1 hown1 hgrow1; simp only [Nat.zero_add, List.nil_append] at hown1)
        | (at_builtin; refine wpList_append_fits _ rfl (.tmp 31) (.tmp 33) 23 rfl w.heap.size 5 i0 1 Trym.underlying23 hi hz1 (w.heap.size + 1) 1 21 _ rfl hown1 ⟨w.heap.size, q, none⟩ (20 - q) (20 - q) ((tl g q).map (Value.int .u8)) rfl (by simp [HL.out]) (fun j u hj => hgrow1.cell ((World.grownBy_alloc _ _ none).cell (hgrow0.cell (row_cells HR.out hj) (by simp)) (by simp)) (by simp [WideShapes.add_plain])) (ints_oneCell _ _) (by omega) ?_; intro w2 hown2 hgrow2))
      go_ret
      have hlen := HL.out
      refine ⟨tl g q, HW.out, by omega, ?_, ?_, ?_⟩
      · rw [hlen]; rfl
      · rw [hlen]; simpa using hown2
      · have b0 := HB.out.grown hgrow0 HB.out.size (fun k hk => by cases hk)
        have s0 : w.heap.size ≤ w0.heap.size := b0.size
        have b1 := (b0.alloc s0 _).grown hgrow1 (by simp; omega) (fun k hk => by cases hk; omega)
        exact b1.grown hgrow2 b1.size (fun k hk => by cases hk; omega)
    · have e0 : ((u : Int) / 10 == 0) = false := by simp; omega
      have HU := hide hu
      clear hu
      go_wp2
      go_roundw
      case rel => exact ⟨u / 10, q, by go_num, by go_num, dec_next HS.out rfl HU.out⟩
      case measure => simp [intOf]
end Go.Proofs.Qxb6602172aMods
