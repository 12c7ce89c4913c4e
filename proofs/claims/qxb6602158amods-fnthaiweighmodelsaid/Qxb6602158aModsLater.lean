/-
  What stays, later: the boxes, the look-ups, the rows.
-/
import Derived.Test.Qxb6602158aModsThai
import Derived.Test.Qxb6602158aModsClone
namespace Go.Proofs.Qxb6602158aMods
open Go.ChangeShapes Go.WideShapes Go.ChangeAt Go.RowKit
set_option linter.unusedVariables false

theorem CameIn.later {w w' : World} {a : Option Addr} {len cap : Nat} {ys : List Int} (h : CameIn w a len cap ys) (hb : Below w.heap.size w w') : CameIn w' a len cap ys :=
  ⟨h.1, h.2.1, fun x hx j v hj => by
    have hc := h.2.2 x hx j v hj
    rw [hb.cell (World.block_lt_of_cell? _ _ hc)]
    exact hc⟩

theorem owns_block {w w' : World} {base n : Nat} {v : Value} {xs : List Value} (h : w.ownsRow base 5 1 v n xs) (hb : ∀ g, v.ownBlock = some g → w'.heap[g]? = w.heap[g]?) : w'.ownsRow base 5 1 v n xs := by
  obtain ⟨h1, ⟨rfl, rfl⟩ | ⟨g', cap, cur, rfl, hg, hc, rest⟩⟩ := h
  · exact ⟨h1, .inl ⟨rfl, rfl⟩⟩
  · exact ⟨h1, .inr ⟨g', cap, cur, rfl, hg, (hb g' rfl).trans hc, rest⟩⟩

theorem owns_below {w w' : World} {base n : Nat} {v : Value} {xs : List Value} (h : w.ownsRow base 5 1 v n xs) (hb : Below w.heap.size w w') : w'.ownsRow base 5 1 v n xs :=
  owns_block h fun g hg => hb.block g (owns_lt h hg.symm)

theorem owns_base {w : World} {base n : Nat} {v : Value} {xs : List Value} (h : w.ownsRow base 5 1 v n xs) {g : Nat} (hg : v.ownBlock = some g) : base ≤ g := by
  obtain ⟨_, ⟨rfl, rfl⟩ | ⟨g', cap, cur, rfl, hb, _⟩⟩ := h
  · cases hg
  · cases hg; exact hb

theorem owns_grown {w w' : World} {base n : Nat} {v : Value} {xs : List Value} {g : Option Nat} (h : w.ownsRow base 5 1 v n xs) (hg : w.grownBy w' g) (hne : ∀ k, v.ownBlock = some k → some k ≠ g) : w'.ownsRow base 5 1 v n xs :=
  owns_block h fun k hk => hg.block k (owns_lt h hk.symm) (hne k hk)

theorem owns_read {w : World} {base n : Nat} {a : Option Addr} {c : Nat} {ys : List Int} (hn : ys.length = n) (h : w.ownsRow base 5 1 (.slice a n c) n (ys.map (Value.int .u8))) (h0 : 0 < n) :
    ∃ g, a = some ⟨g, 0, none⟩ ∧ ∀ j, j < n → w.cell? ⟨g, j, none⟩ = some (.int .u8 (ys.getD j 0)) := by
  obtain ⟨g, rfl⟩ : ∃ g, a = some ⟨g, 0, none⟩ := by
    obtain ⟨_, ⟨_, h0⟩ | ⟨g, _, _, e, _⟩⟩ := h
    · omega
    · cases e; exact ⟨g, rfl⟩
  exact ⟨g, rfl, fun j hj => (rowAt_of hn h).1.cell (by omega)⟩

theorem cameIn_of {w : World} {base n : Nat} {a : Option Addr} {c : Nat} {ys : List Int} (hn : ys.length = n) (h : w.ownsRow base 5 1 (.slice a n c) n (ys.map (Value.int .u8))) : CameIn w a n c ys := by
  refine ⟨hn, fun ha => ?_, fun x hx j v hj => ?_⟩
  · subst ha
    obtain ⟨_, ⟨e, h0⟩ | ⟨g, _, _, e, _⟩⟩ := h
    · cases e; exact ⟨rfl, rfl⟩
    · cases e
  · have hjl : j < n := by
      have := (List.getElem?_eq_some_iff.1 hj).1
      simpa [hn] using this
    obtain ⟨g, rfl, hc⟩ := owns_read hn h (by omega)
    cases hx
    rw [Go.WideShapes.add_plain, Nat.zero_add, hc j hjl, ← hj]
    simp [hn, hjl]

theorem box_in {w wB wX : World} {c1 c2 c3 c4 : Array Value} (hB : Boxed w wB c1 c2 c3 c4) (hb : Below wB.heap.size wB wX) :
    wX.heap[w.heap.size]? = some (.cells c1 23) ∧ wX.heap[w.heap.size + 1]? = some (.cells c2 24) ∧ wX.heap[w.heap.size + 1 + 1]? = some (.cells c3 23) ∧ wX.heap[w.heap.size + 1 + 1 + 1]? = some (.cells c4 25) := by
  have := hB.size
  exact ⟨(hb.block _ (by omega)).trans hB.b1, (hb.block _ (by omega)).trans hB.b2, (hb.block _ (by omega)).trans hB.b3, (hb.block _ (by omega)).trans hB.b4⟩

theorem Boxed.all {w wB wX : World} {c1 c2 c3 c4 : Array Value} (hB : Boxed w wB c1 c2 c3 c4) (hb : Below wB.heap.size wB wX) : Below w.heap.size w wX :=
  hB.below.trans (hb.mono hB.below.size)

/-- What 'thai_any' wants of the map. -/
theorem look_in {w wX : World} {m : Option Nat} {lv : Int → Int} {lo : Int → Bool} {ml : Int} {g : Option Nat} (hL : Look w m lv lo ml) (hb : Below w.heap.size w wX) (hg : ∀ k, g = some k → w.heap.size ≤ k) :
    ∀ wx, wX.grownBy wx g → (∀ r, (Lit.int .i32 r).wf = true → (Instr.lookup 22 (.map m) (.int .i32 r) true).run Trym.prog wx = .ok (.tuple #[.int .u8 (lv r), .bool (lo r)]) wx) ∧
      (Instr.lookup 22 (.map m) (.int .i32 63) false).run Trym.prog wx = .ok (.int .u8 (lv 63)) wx := fun wx hx =>
  ⟨(hL.2 wx (hb.grown hx hb.size hg)).1, (hL.2 wx (hb.grown hx hb.size hg)).2.1⟩
end Go.Proofs.Qxb6602158aMods
