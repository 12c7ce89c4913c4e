/-
  The walk of 'cloneBytes' (function 11): a fresh row that holds what the argument holds; nothing old has turned.
-/
import Derived.Test.Qxb6602172aModsRows
import Derived.WalkKit
import Derived.ProofKit
import Derived.WalkSpells
import Derived.Below
import Derived.Deep.OwnRows
namespace Go.Proofs.Qxb6602172aMods
open Go.ChangeShapes Go.WideShapes Go.ChangeAt Go.RowKit
set_option linter.unusedVariables false

theorem hide {p : Prop} (h : p) : Hid p := h
theorem unhide {p : Prop} (h : Hid p) : p := h

theorem Trym.info5 : (Trym.prog.info? 5).map (fun i => (i.zero, i.size, i.bytes)) = some (some (.int .u8 0), 1, 1) := by kernel_rfl

theorem clone_step {w wr : World} {B len k : Nat} {f : Nat → Int} (h : wr.rowIs B 5 len (fun j => .int .u8 (if j < k then f j else 0))) :
    (wr.setCell ⟨B, k, none⟩ (.int .u8 (f k))).rowIs B 5 len (fun j => .int .u8 (if j < k + 1 then f j else 0)) := by
  refine (h.set k _).congr fun j hj => ?_
  by_cases e : j = k
  · subst e; simp
  · by_cases l : j < k
    · simp [e, l, show j < k + 1 by omega]
    · simp [e, l, show ¬ j < k + 1 by omega]

set_option maxHeartbeats 400000 in
theorem clone_any (b off len cap : Nat) (f : Nat → Int) (w : World) (hlen : len ≤ 1048576)
    (hc : ∀ j, j < len → w.cell? ⟨b, off + j, none⟩ = some (.int .u8 (f j))) (hb : b < w.heap.size) :
    Calls Trym.prog 11 #[.slice (some ⟨b, off, none⟩) len cap] w fun e w' =>
      e = .returned (.slice (some ⟨w.heap.size, 0, none⟩) len len) ∧ w'.rowIs w.heap.size 5 len (fun j => .int .u8 (f j)) ∧ Below w.heap.size w w' := by
  have hmk := run_make_row' (P := Trym.prog) 23 5 (.int .u8 0) 1 Trym.underlying23 Trym.info5 rfl .i64 .i64 len (by omega) (by omega)
  have q23 : ∀ (w : World) (a : Option Addr) (n c n' c' : Nat), (binOp .eql 23 (.slice a n c) (.slice none n' c')).run Trym.prog w = .ok (.bool a.isNone) w := fun w a n c n' c' => Lib.run_eql_slice_nil w _ _ a n c n' c' Trym.underlying23
  have HC : Hid (∀ j, j < len → w.cell? ⟨b, off + j, none⟩ = some (.int .u8 (f j))) := hc
  clear hc
  go_enter Trym.func11, Trym.ntmps11
  go_wp2
  clear hmk q23
  go_loopw [4] (fun i wr => ∃ k : Nat, k ≤ len ∧ i = .int .i64 k ∧ wr.rowIs w.heap.size 5 len (fun j => .int .u8 (if j < k then f j else 0)) ∧ Below w.heap.size w wr) (fun i _ => len - (intOf i).toNat)
  case atStart => exact ⟨0, Nat.zero_le _, rfl, by simpa using World.rowIs_made w (.int .u8 0) len 5, (Below.refl _ _).alloc (Nat.le_refl _) _⟩
  case round =>
    obtain ⟨k, hk, rfl, hrow, hbel⟩ := hrel
    by_cases hlt : k < len
    · have h0 : wr.cell? ⟨b, off + k, none⟩ = some (.int .u8 (f k)) := (hbel.cell (p := ⟨b, off + k, none⟩) hb).trans (HC.out k hlt)
      have h1 : wr.cell? ⟨w.heap.size, k, none⟩ = some (.int .u8 0) := by simpa using hrow.cell hlt
      have h2 : wr.frozen? ⟨w.heap.size, k, none⟩ = false := hrow.frozen k
      have HR := hide (clone_step (w := w) hrow)
      have HB := hide (hbel.setCell (p := ⟨w.heap.size, k, none⟩) (Nat.le_refl _) (.int .u8 (f k)))
      clear hrow hbel
      go_wp2
      go_roundw
      case rel => exact ⟨k + 1, by omega, by go_num, unhide HR, unhide HB⟩
      case measure => simp [intOf]; omega
    · have : k = len := by omega
      subst this
      have HR := hide (hrow.congr (g := fun j => .int .u8 (f j)) (fun j hj => by simp [hj]))
      have HB := hide hbel
      clear hrow hbel
      go_wp2
      go_ret
      exact ⟨rfl, unhide HR, unhide HB⟩
end Go.Proofs.Qxb6602172aMods
