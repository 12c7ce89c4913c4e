/-
  The walk of 'zzClone' (function 12): a fresh row that holds what the argument holds; nothing old has turned.
-/
import Derived.Test.Qxb6602258aModsRows
import Derived.WalkKit
import Derived.ProofKit
import Derived.WalkSpells
import Derived.Below
import Derived.Deep.OwnRows
namespace Go.Proofs.Qxb6602258aMods
open Go.ChangeShapes Go.WideShapes Go.ChangeAt Go.RowKit
set_option linter.unusedVariables false

theorem hide {p : Prop} (h : p) : Hid p := h
theorem unhide {p : Prop} (h : Hid p) : p := h

theorem Trym.info5 : (Trym.prog.info? 5).map (fun i => (i.zero, i.size, i.bytes)) = some (some (.int .u8 0), 1, 1) := by kernel_rfl

theorem clone_step {w wr : World} {B len k : Nat} {f : Nat → Int} (h : wr.rowIs B 5 len (fun j => .int .u8 (if j < k then f j else 0))) :
    (wr.setCell ⟨B, k, none⟩ (.int .u8 (f k))).rowIs B 5 len (fun j => .int .u8 (if j < k + 1 then f j else 0)) := by
  refine (h.set k _).congr fun j hj => ?_
  by_cases e : j = k
  · subst e; simp
  · by_cases l : j < k
    · simp [e, l, show j < k + 1 by omega]
    · simp [e, l, show ¬ j < k + 1 by omega]

set_option maxHeartbeats 400000 in
theorem clone_any (b off len cap : Nat) (f : Nat → Int) (w : World) (hlen : len ≤ 1048576)
    (hc : ∀ j, j < len → w.cell? ⟨b, off + j, none⟩ = some (.int .u8 (f j))) (hb : b < w.heap.size) :
    Calls Trym.prog 12 #[.slice (some ⟨b, off, none⟩) len cap] w fun e w' =>
      e = .returned (.slice (some ⟨w.heap.size, 0, none⟩) len len) ∧ w'.rowIs w.heap.size 5 len (fun j => .int .u8 (f j)) ∧ Below w.heap.size w w' := by
  have hmk := run_make_row' (P := Trym.prog) 22 5 (.int .u8 0) 1 Trym.underlying22 Trym.info5 rfl .i64 .i64 len (by omega) (by omega)
  have q22 : ∀ (w : World) (a : Option Addr) (n c n' c' : Nat), (binOp .eql 22 (.slice a n c) (.slice none n' c')).run Trym.prog w = .ok (.bool a.isNone) w := fun w a n c n' c' => Lib.run_eql_slice_nil w _ _ a n c n' c' Trym.underlying22
  have HC : Hid (∀ j, j < len → w.cell? ⟨b, off + j, none⟩ = some (.int .u8 (f j))) := hc
  clear hc
  go_enter Trym.func12, Trym.ntmps12
  go_wp2
  clear hmk q22
  go_loopw [4] (fun i wr => ∃ k : Nat, k ≤ len ∧ i = .int .i64 k ∧ wr.rowIs w.heap.size 5 len (fun j => .int .u8 (if j < k then f j else 0)) ∧ Below w.heap.size w wr) (fun i _ => len - (intOf i).toNat)
  case atStart => exact ⟨0, Nat.zero_le _, rfl, by simpa using World.rowIs_made w (.int .u8 0) len 5, (Below.refl _ _).alloc (Nat.le_refl _) _⟩
  case round =>
    obtain ⟨k, hk, rfl, hrow, hbel⟩ := hrel
    by_cases hlt : k < len
    · have h0 : wr.cell? ⟨b, off + k, none⟩ = some (.int .u8 (f k)) := (hbel.cell (p := ⟨b, off + k, none⟩) hb).trans (HC.out k hlt)
      have h1 : wr.cell? ⟨w.heap.size, k, none⟩ = some (.int .u8 0) := by simpa using hrow.cell hlt
      have h2 : wr.frozen? ⟨w.heap.size, k, none⟩ = false := hrow.frozen k
      have HR := hide (clone_step (w := w) hrow)
      have HB := hide (hbel.setCell (p := ⟨w.heap.size, k, none⟩) (Nat.le_refl _) (.int .u8 (f k)))
      clear hrow hbel
      go_wp2
      go_roundw
      case rel => exact ⟨k + 1, by omega, by go_num, unhide HR, unhide HB⟩
      case measure => simp [intOf]; omega
    · have : k = len := by omega
      subst this
      have HR := hide (hrow.congr (g := fun j => .int .u8 (f j)) (fun j hj => by simp [hj]))
      have HB := hide hbel
      clear hrow hbel
      go_wp2
      go_ret
      exact ⟨rfl, unhide HR, unhide HB⟩

set_option maxHeartbeats 400000 in
/-- 'zzClone' at nil. -/
theorem clone_nil (w : World) : Calls Trym.prog 12 #[.slice none 0 0] w fun e w' => e = .returned (.slice none 0 0) ∧ w = w' := by
  have q22 : ∀ (w : World) (a : Option Addr) (n c n' c' : Nat), (binOp .eql 22 (.slice a n c) (.slice none n' c')).run Trym.prog w = .ok (.bool a.isNone) w := fun w a n c n' c' => Lib.run_eql_slice_nil w _ _ a n c n' c' Trym.underlying22
  go_enter Trym.func12, Trym.ntmps12
  go_wp2
  go_ret
  exact ⟨rfl, rfl⟩

set_option maxHeartbeats 400000 in
/-- 'zzClone' at an empty slice that is not nil. -/
theorem clone_empty' (x : Addr) (cap : Nat) (w : World) : Calls Trym.prog 12 #[.slice (some x) 0 cap] w fun e w' => e = .returned (.slice (some ⟨w.heap.size, 0, none⟩) 0 0) ∧ Below w.heap.size w w' ∧ w.heap.size < w'.heap.size := by
  have hmk : ∀ w : World, _ := run_make_row' (P := Trym.prog) 22 5 (.int .u8 0) 1 Trym.underlying22 Trym.info5 rfl .i64 .i64 0 (by omega) (by omega)
  have q22 : ∀ (w : World) (a : Option Addr) (n c n' c' : Nat), (binOp .eql 22 (.slice a n c) (.slice none n' c')).run Trym.prog w = .ok (.bool a.isNone) w := fun w a n c n' c' => Lib.run_eql_slice_nil w _ _ a n c n' c' Trym.underlying22
  simp only [Int.natCast_zero] at hmk
  go_enter Trym.func12, Trym.ntmps12
  go_wp2
  clear hmk q22
  go_loop [4] (fun i => i = .int .i64 0) (fun _ => 0)
  case atStart => rfl
  case round =>
    subst hrel
    go_wp2
    go_ret
    exact ⟨rfl, (Below.refl _ _).alloc (Nat.le_refl _) _, by simp⟩

set_option maxHeartbeats 400000 in
/-- 'zzClone' at an empty slice that is not nil. -/
theorem clone_empty (x : Addr) (cap : Nat) (w : World) : Calls Trym.prog 12 #[.slice (some x) 0 cap] w fun e w' => e = .returned (.slice (some ⟨w.heap.size, 0, none⟩) 0 0) ∧ Below w.heap.size w w' := by
  have hmk : ∀ w : World, _ := run_make_row' (P := Trym.prog) 22 5 (.int .u8 0) 1 Trym.underlying22 Trym.info5 rfl .i64 .i64 0 (by omega) (by omega)
  have q22 : ∀ (w : World) (a : Option Addr) (n c n' c' : Nat), (binOp .eql 22 (.slice a n c) (.slice none n' c')).run Trym.prog w = .ok (.bool a.isNone) w := fun w a n c n' c' => Lib.run_eql_slice_nil w _ _ a n c n' c' Trym.underlying22
  simp only [Int.natCast_zero] at hmk
  go_enter Trym.func12, Trym.ntmps12
  go_wp2
  clear hmk q22
  go_loop [4] (fun i => i = .int .i64 0) (fun _ => 0)
  case atStart => rfl
  case round =>
    subst hrel
    go_wp2
    go_ret
    exact ⟨rfl, (Below.refl _ _).alloc (Nat.le_refl _) _⟩

theorem getD_mem {xs : List Int} {j : Nat} (h : j < xs.length) : xs.getD j 0 ∈ xs := by
  rw [show xs.getD j 0 = xs[j] by simp [h]]
  exact List.getElem_mem h

/-- What the cloned tail is good for. -/
def TailOK (w1 : World) (ao : Option Addr) (c : Nat) (ys : List Int) : Prop :=
  (ao = none → ys.length = 0 ∧ c = 0) ∧ ∀ ad, ao = some ad → ∀ j u, (ys.map (Value.int .u8))[j]? = some u → w1.cell? (ad.add j) = some u

theorem map_get {ys : List Int} {j : Nat} {u : Value} (h : (ys.map (Value.int .u8))[j]? = some u) : j < ys.length ∧ u = .int .u8 (ys.getD j 0) := by
  rw [List.getElem?_map, Option.map_eq_some_iff] at h
  obtain ⟨a, ha, rfl⟩ := h
  obtain ⟨hl, he⟩ := List.getElem?_eq_some_iff.1 ha
  exact ⟨hl, by simp [hl, he]⟩

theorem map_at {zs : List Int} {j : Nat} (h : j < zs.length) : (zs.map (Value.int .u8))[j]? = some (.int .u8 (zs.getD j 0)) := by
  simp [h]

theorem clone_tail (a : Option Addr) (cap : Nat) (ys : List Int) (w : World) (hlen : ys.length ≤ 1048576)
    (h : (a = none ∧ ys.length = 0 ∧ cap = 0) ∨ ∃ x, a = some x ∧ (0 < ys.length → ∃ b off, x = ⟨b, off, none⟩ ∧ ∀ j, j < ys.length → w.cell? ⟨b, off + j, none⟩ = some (.int .u8 (ys.getD j 0)))) :
    Calls Trym.prog 12 #[.slice a ys.length cap] w fun e w' => ∃ ao c, e = .returned (.slice ao ys.length c) ∧ TailOK w' ao c ys ∧ Below w.heap.size w w' := by
  rcases h with ⟨rfl, h0, rfl⟩ | ⟨x, rfl, h⟩
  · rw [h0]
    refine (clone_nil w).mono ?_
    rintro e w' ⟨rfl, rfl⟩
    exact ⟨none, 0, rfl, ⟨fun _ => ⟨h0, rfl⟩, fun ad h => (by cases h)⟩, Below.refl _ _⟩
  · by_cases h0 : 0 < ys.length
    · obtain ⟨b, off, rfl, hc⟩ := h h0
      have hb : b < w.heap.size := World.block_lt_of_cell? _ _ (hc 0 h0)
      refine (clone_any b off ys.length cap (fun j => ys.getD j 0) w hlen hc hb).mono ?_
      rintro e w' ⟨rfl, hrow, hbel⟩
      refine ⟨_, _, rfl, ⟨fun h => (by cases h), fun ad had j u hj => ?_⟩, hbel⟩
      cases had
      obtain ⟨hl, rfl⟩ := map_get hj
      rw [Go.WideShapes.add_plain, Nat.zero_add]
      exact hrow.cell hl
    · have e0 : ys.length = 0 := by omega
      rw [e0]
      refine (clone_empty x cap w).mono ?_
      rintro e w' ⟨rfl, hbel⟩
      refine ⟨_, _, rfl, ⟨fun h => (by cases h), fun ad had j u hj => ?_⟩, hbel⟩
      have := (map_get hj).1
      omega

end Go.Proofs.Qxb6602258aMods
