/-
  What the walks are told of the arguments: the map by its look-ups, the arrays by their cells; and how that is had from the form's own readings.
-/
import Derived.Test.Qxb6602158aModsWitness
import Derived.WalkSpells
import Derived.Maps.OwnSet
import Derived.Maps.OwnOps
namespace Go.Proofs.Qxb6602158aMods
open Go.ChangeShapes Go.WideShapes Go.ChangeAt Go.RowKit Go.WideElems Go.Maps
set_option linter.unusedVariables false

theorem hide {p : Prop} (h : p) : Hid p := h
theorem unhide {p : Prop} (h : Hid p) : p := h

/-- The map: what each look-up gives, in every later world. -/
def Look (w : World) (m : Option Nat) (lv : Int → Int) (lo : Int → Bool) (ml : Int) : Prop :=
  (∀ r, 0 ≤ lv r ∧ lv r ≤ 255) ∧ ∀ wx, Below w.heap.size w wx →
    (∀ r, (Lit.int .i32 r).wf = true → (Instr.lookup 22 (.map m) (.int .i32 r) true).run Trym.prog wx = .ok (.tuple #[.int .u8 (lv r), .bool (lo r)]) wx) ∧
    (Instr.lookup 22 (.map m) (.int .i32 63) false).run Trym.prog wx = .ok (.int .u8 (lv 63)) wx ∧
    ∀ ty, (Builtin.len_ #[22] ty #[.map m]).run Trym.prog wx = .ok (.int .i64 ml) wx

/-- An array of bytes. -/
def IsBytes (c : Array Value) (n : Nat) (f : Nat → Int) : Prop := c.size = n ∧ (∀ i, i < n → c[i]? = some (.int .u8 (f i))) ∧ ∀ i, 0 ≤ f i ∧ f i ≤ 255
/-- An array of bools. -/
def IsBools (c : Array Value) (n : Nat) (f : Nat → Bool) : Prop := c.size = n ∧ ∀ i, i < n → c[i]? = some (.bool (f i))

theorem law21 : Keyed Trym.prog 21 := int_keyed Trym.underlying21
theorem zero5 (w : World) : (zeroValue 5).run Trym.prog w = .ok (.int .u8 0) w := by kernel_rfl

def byteIn {H : Type} (d : DataW H) : Int := match d with | .lit (.int _ c) => if 0 ≤ c ∧ c ≤ 255 then c else 0 | _ => 0
theorem byteIn_bd {H : Type} (d : DataW H) : 0 ≤ byteIn d ∧ byteIn d ≤ 255 := by
  unfold byteIn
  split
  · split <;> omega
  · omega
theorem byteIn_lit {H : Type} {c : Int} (h : (Lit.int .u8 c).wf = true) : byteIn (H := H) (.lit (.int .u8 c)) = c := by
  have := bounds_u8 h
  simp [byteIn, this]

theorem look_nil_of (w : World) : Look w none (fun _ => 0) (fun _ => false) 0 := by
  refine ⟨fun _ => ⟨Int.le_refl 0, (by decide : (0 : Int) ≤ 255)⟩, fun wx _ => ⟨fun r hr => ?_, ?_, fun ty => Maps.len_nil Trym.underlying22 ty⟩⟩
  · exact Maps.look_nil (w := wx) true law21 Trym.underlying22 (zero5 _) (keyOf_int_mk Trym.underlying21 hr)
  · exact Maps.look_nil (w := wx) false law21 Trym.underlying22 (zero5 _) (keyOf_int_mk Trym.underlying21 (by decide))

theorem look_own {H : Type} {w : World} {b n : Nat} {D : DataW H} (h : w.ownsMap Trym.prog 21 (plainElem Trym.prog 5) b n D) :
    Look w (some b) (fun r => byteIn (D.atKey (.int .i32 r) (.lit (.int .u8 0)))) (fun r => Maps.has D (.int .i32 r)) (Maps.size D) := by
  refine ⟨fun r => byteIn_bd _, fun wx hb => ?_⟩
  have hx : wx.ownsMap Trym.prog 21 (plainElem Trym.prog 5) b n D := by
    obtain ⟨es, clock, hh, rest⟩ := h
    exact ⟨es, clock, (hb.block b (Array.getElem?_eq_some_iff.1 hh).1).trans hh, rest⟩
  refine ⟨fun r hr => ?_, ?_, fun ty => hx.len Trym.underlying22 ty⟩
  · obtain ⟨v, ps, hrun, hv⟩ := hx.look_ok law21 Trym.underlying22 (zero5 _) (plainElem_int Trym.underlying5 (by decide)) (keyOf_int_mk Trym.underlying21 hr)
    obtain ⟨c, rfl, hc, hwc⟩ := plainElem_int_inv Trym.underlying5 hv
    simp only [Prod.mk.injEq] at hc
    rw [hrun]
    dsimp only
    rw [hc.1, byteIn_lit hwc]
  · obtain ⟨c, hrun, hc, hwc⟩ := hx.lookup_int law21 Trym.underlying22 Trym.underlying5 (zero5 _) (keyOf_int_mk Trym.underlying21 (show (Lit.int .i32 63).wf = true by decide))
    rw [hrun]
    dsimp only
    rw [hc, byteIn_lit hwc]

theorem look_of {H : Type} {enc : TypeId × Value → H} {W : World} {m : Option Nat} {d : DataW H} {p : List MemPlace} (h : DataW.Trod enc Trym.prog W 0 (fun _ => true) true 22 (.map m) d p) : ∃ lv lo ml, Look W m lv lo ml := by
  obtain ⟨fuel, hf⟩ := h
  rcases open_map Trym.underlying22 hf with ⟨hcs, hx⟩ | ⟨bm, es, clock, n, rfl, hcs, hb, _, F, hx⟩
  · simp [Value.cells] at hcs
    subst hcs
    exact ⟨_, _, _, look_nil_of W⟩
  · simp [Value.cells] at hcs
    subst hcs
    have hown := World.ownsMap_of_fit (R := plainElem Trym.prog 5) hb F (fun x _ z hz => elemAt_plainElem_int Trym.underlying5 hz)
    exact ⟨_, _, _, look_own hown⟩

theorem open_bytes {W : World} {base : Nat} {v : Value} (h : Value.okWide Trym.prog W .any base 23 v) : ∃ c f, v = .agg c ∧ IsBytes c 256 f := by
  unfold Value.okWide at h
  rw [Trym.underlying23] at h
  obtain ⟨c, rfl, hs, hr⟩ := h
  rw [Trym.cells23] at hs
  obtain ⟨ts, h1, _, h3⟩ := hr
  obtain ⟨ts', e1, e2, e3⟩ := types23
  rw [h1] at e1
  cases e1
  refine ⟨c, fun i => match c[i]? with | some (.int _ n) => if 0 ≤ n ∧ n ≤ 255 then n else 0 | _ => 0, rfl, hs, fun i hi => ?_, fun i => ?_⟩
  · have hlt : i < c.size := by omega
    obtain ⟨u, hu, ho⟩ := h3 i c[i] (Array.getElem?_eq_getElem hlt)
    rw [e3 u (List.mem_of_getElem? hu)] at ho
    unfold Cell.okWide Cell.ok at ho
    rw [Trym.underlying5] at ho
    dsimp only
    rw [Array.getElem?_eq_getElem hlt]
    generalize c[i] = x at ho ⊢
    cases x <;> simp at ho
    rename_i k n
    obtain ⟨rfl, hn⟩ := ho
    have hb : 0 ≤ n ∧ n ≤ 255 := by simpa [IntKind.has, IntKind.min, IntKind.max, IntKind.signed, IntKind.bits] using hn
    simp [hb]
  · dsimp only
    split
    · split <;> omega
    · omega

theorem open_bools {W : World} {base n : Nat} {t : TypeId} {v : Value} {m e : Nat} (ht : Trym.prog.underlying t = some (.array m e)) (hc : Trym.prog.cellsOf t = n)
    (htt : ∃ ts, Trym.prog.cellTypes Trym.prog.depth t = some ts ∧ ts.length = n ∧ ∀ u ∈ ts, u = 4) (h : Value.okWide Trym.prog W .any base t v) : ∃ c f, v = .agg c ∧ IsBools c n f := by
  unfold Value.okWide at h
  rw [ht] at h
  obtain ⟨c, rfl, hs, hr⟩ := h
  rw [hc] at hs
  obtain ⟨ts, h1, _, h3⟩ := hr
  obtain ⟨ts', e1, e2, e3⟩ := htt
  rw [h1] at e1
  cases e1
  refine ⟨c, fun i => match c[i]? with | some (.bool b) => b | _ => false, rfl, hs, fun i hi => ?_⟩
  have hlt : i < c.size := by omega
  obtain ⟨u, hu, ho⟩ := h3 i c[i] (Array.getElem?_eq_getElem hlt)
  rw [e3 u (List.mem_of_getElem? hu)] at ho
  unfold Cell.okWide Cell.ok at ho
  rw [Trym.underlying4] at ho
  dsimp only
  rw [Array.getElem?_eq_getElem hlt]
  generalize c[i] = x at ho ⊢
  cases x <;> simp at ho
  rfl
end Go.Proofs.Qxb6602158aMods
