/-
  'cloneBytes' (function 5): nil stays nil, else a new row that holds what the argument holds; nothing old has turned.
-/
import Derived.Test.Qxb6602158aModsPlain
import Derived.WalkKit
import Derived.Deep.OwnRows
namespace Go.Proofs.Qxb6602158aMods
open Go.ChangeShapes Go.WideShapes Go.ChangeAt Go.RowKit
set_option linter.unusedVariables false

theorem Trym.info5c : (Trym.prog.info? 5).map (fun i => (i.zero, i.size, i.bytes)) = some (some (.int .u8 0), 1, 1) := by kernel_rfl
theorem Trym.size5 : (Trym.prog.info? 5).map (·.size) = some 1 := by kernel_rfl

/-- A slice of bytes that can be read. -/
def CameIn (w : World) (a : Option Addr) (len cap : Nat) (ys : List Int) : Prop :=
  ys.length = len ∧ (a = none → len = 0 ∧ cap = 0) ∧ ∀ x, a = some x → ∀ (j : Nat) v, (ys.map (Value.int .u8))[j]? = some v → w.cell? (x.add j) = some v

theorem oneCells (ys : List Int) : ∀ v ∈ ys.map (Value.int .u8), v.oneCell' = true := by
  intro v hv
  obtain ⟨y, _, rfl⟩ := List.mem_map.1 hv
  rfl

theorem made_rep (n : Nat) : madeCells #[.int .u8 0] n = (List.replicate n (.int .u8 0)).toArray := by
  apply Array.ext'
  simp [madeCells, Nat.mod_one, List.map_const']

theorem splice_all {cur cs : List Value} (h : cs.length = cur.length) : splice cur 0 cs = cs := by
  simp [splice, h]

set_option maxHeartbeats 400000 in
theorem clone_nil (w : World) : Calls Trym.prog 5 #[.slice none 0 0] w fun e w' => e = .returned (.slice none 0 0) ∧ w = w' := by
  have q26 : ∀ (w : World) (a : Option Addr) (n c n' c' : Nat), (binOp .eql 26 (.slice a n c) (.slice none n' c')).run Trym.prog w = .ok (.bool a.isNone) w := fun w a n c n' c' => Lib.run_eql_slice_nil w _ _ a n c n' c' Trym.underlying26
  go_enter Trym.func5, Trym.ntmps5
  go_wp2
  go_ret
  exact ⟨rfl, rfl⟩

set_option maxHeartbeats 400000 in
theorem clone_some (x : Addr) (len cap : Nat) (ys : List Int) (w : World) (hlen : len ≤ 1048576) (hys : ys.length = len) (hc : ∀ (j : Nat) v, (ys.map (Value.int .u8))[j]? = some v → w.cell? (x.add j) = some v) :
    Calls Trym.prog 5 #[.slice (some x) len cap] w fun e w' => e = .returned (.slice (some ⟨w.heap.size, 0, none⟩) len len) ∧ RowAt w' w.heap.size len ys ∧ Below w.heap.size w w' := by
  have hmk := run_make_row' (P := Trym.prog) 26 5 (.int .u8 0) 1 Trym.underlying26 Trym.info5c rfl .i64 .i64 len (by omega) (by omega)
  have q26 : ∀ (w : World) (a : Option Addr) (n c n' c' : Nat), (binOp .eql 26 (.slice a n c) (.slice none n' c')).run Trym.prog w = .ok (.bool a.isNone) w := fun w a n c n' c' => Lib.run_eql_slice_nil w _ _ a n c n' c' Trym.underlying26
  have B1 : Hid (Below w.heap.size w (w.alloc (.cells (madeCells #[.int .u8 0] len) 5))) := (Below.refl _ _).alloc (Nat.le_refl _) _
  have A1 : Hid ((w.alloc (.cells (madeCells #[.int .u8 0] len) 5)).heap[w.heap.size]? = some (.cells (List.replicate len (.int .u8 0)).toArray 5 (0, 0))) := by
    unfold Hid
    show (w.heap.push _)[w.heap.size]? = _
    rw [Array.getElem?_push_size, made_rep]
  have A2 : Hid ((ys.map (Value.int .u8)).length = Nat.min len len) := by unfold Hid; rw [List.length_map, hys]; exact (Nat.min_self len).symm
  have A3 : Hid (0 < (ys.map (Value.int .u8)).length → (some (⟨w.heap.size, 0, none⟩ : Addr) = some ⟨w.heap.size, 0, none⟩ ∧ ∃ ad, some x = some ad ∧ ∀ (j : Nat) v, (ys.map (Value.int .u8))[j]? = some v → (w.alloc (.cells (madeCells #[.int .u8 0] len) 5)).cell? (ad.add j) = some v)) := fun _ =>
    ⟨rfl, x, rfl, fun j v h => by have hc1 := hc j v h; rw [B1.out.cell (World.block_lt_of_cell? _ _ hc1)]; exact hc1⟩
  have A4 : Hid (0 + (ys.map (Value.int .u8)).length ≤ (List.replicate len (Value.int .u8 0)).length) := by unfold Hid; simp [hys]
  have HY := hide hys
  clear hc hys
  go_enter Trym.func5, Trym.ntmps5
  go_wp2_with (refine wpList_copy_splice rfl (.tmp 9) (.tmp 10) 26 26 rfl 5 Trym.underlying26 Trym.size5 (some ⟨w.heap.size, 0, none⟩) (some x) len len len cap rfl rfl w.heap.size 0 (List.replicate len (.int .u8 0)) 5 A1.out (ys.map (Value.int .u8)) A2.out A3.out A4.out (oneCells ys) w.heap.size w B1.out (Nat.le_refl _) ?_; intro w' hw' hb')
  have HB := hide hb'
  clear hb' hmk q26
  go_wp2
  go_ret
  refine ⟨rfl, ⟨[], ?_, by simp [HY.out], by unfold maxLen; omega⟩, HB.out⟩
  have := hw'.out
  rw [splice_all (by simp [HY.out])] at this
  rw [this, List.append_nil]

theorem clone_any (a : Option Addr) (len cap : Nat) (ys : List Int) (w : World) (hlen : len ≤ 1048576) (h : CameIn w a len cap ys) :
    Calls Trym.prog 5 #[.slice a len cap] w fun e w' => ∃ ao c, e = .returned (.slice ao len c) ∧ w'.ownsRow w.heap.size 5 1 (.slice ao len c) len (ys.map (Value.int .u8)) ∧ Below w.heap.size w w' := by
  obtain ⟨h1, h2, h3⟩ := h
  cases a with
  | none =>
    obtain ⟨rfl, rfl⟩ := h2 rfl
    refine (clone_nil w).mono ?_
    rintro e w' ⟨rfl, rfl⟩
    obtain rfl : ys = [] := List.eq_nil_of_length_eq_zero h1
    exact ⟨none, 0, rfl, World.ownsRow_nil _ _ _ _, Below.refl _ _⟩
  | some x =>
    refine (clone_some x len cap ys w hlen h1 (h3 x rfl)).mono ?_
    rintro e w' ⟨rfl, hr, hb⟩
    exact ⟨_, _, rfl, owns_of h1 hr (Nat.le_refl _), hb⟩
end Go.Proofs.Qxb6602158aMods
