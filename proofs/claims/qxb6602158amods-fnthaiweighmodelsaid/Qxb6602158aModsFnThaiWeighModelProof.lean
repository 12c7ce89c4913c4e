/-
  The statement: 'FnThaiWeighModel'.
-/
import Derived.Test.Qxb6602158aModsModelLaw
namespace Go.Proofs.Qxb6602158aMods.fnThaiWeighModel
open Go.ChangeShapes Go.WideShapes Go.ChangeAt Go.RowKit
open Go.ChangeMaps (open_string shut_string)
set_option linter.unusedVariables false

/-- WHAT THE WALK IS TOLD OF A SLICE OF INTEGERS THAT CAME IN. -/
def IsRow (k : IntKind) (w : World) (a : Option Addr) (len cap : Nat) (zs : List Int) : Prop :=
  (a = none ∧ len = 0 ∧ cap = 0 ∧ zs = []) ∨
  ∃ x, a = some x ∧ len ≤ cap ∧ cap ≤ maxLen ∧ zs.length = cap ∧ (∀ i, i < zs.length → w.cell? (x.add i) = some (.int k (zs.getD i 0))) ∧ ∀ n ∈ zs, (Lit.int k n).wf = true

theorem walk (m : Option Nat) (c1 c2 c3 c4 : Array Value) (wt : Nat → Int) (mv : Nat → Bool) (ad : Nat → Int) (sw : Nat → Bool) (a5 : Option Addr) (len5 cap5 : Nat) (z5 : List Int) (s : ByteArray) (lv : Int → Int) (lo : Int → Bool) (ml : Int) (w : World)
    (hL : Look w m lv lo ml) (h1 : IsBytes c1 256 wt) (h2 : IsBools c2 256 mv) (h3 : IsBytes c3 256 ad) (h4 : IsBools c4 65536 sw) (w5 : IsRow .u8 w a5 len5 cap5 z5) (hs : s.size ≤ maxLen) :
    Calls Trym.prog 3 #[.map m, .agg c1, .agg c2, .agg c3, .agg c4, .slice a5 len5 cap5, .string s] w fun e w' => e = .returned (.bool true) ∧ Below w.heap.size w w' := by
  obtain ⟨hl5, hc⟩ : len5 ≤ 9223372036854775807 ∧ CameIn w a5 len5 cap5 (z5.take len5) := by
    rcases w5 with ⟨rfl, rfl, rfl, rfl⟩ | ⟨x, rfl, hl, hm, hz, hcell, _⟩
    · exact ⟨by omega, rfl, fun _ => ⟨rfl, rfl⟩, (fun x hx => by cases hx)⟩
    · refine ⟨by unfold maxLen at hm; omega, by rw [List.length_take]; omega, (fun h => by cases h), fun y hy j v hj => ?_⟩
      cases hy
      have hjl := (List.getElem?_eq_some_iff.1 hj).1
      rw [List.length_map, List.length_take] at hjl
      have hj2 : j < z5.length := by omega
      rw [hcell j hj2, ← hj]
      simp [hj2, show j < len5 by omega]
  exact mdl_law m c1 c2 c3 c4 wt mv ad sw a5 len5 cap5 (z5.take len5) s lv lo ml w hL h1 h2 h3 h4 hc hl5 (by unfold maxLen at hs; exact hs)

theorem wit (os : Os) (H : Type) (enc : TypeId × Value → H) (n : Nat) (hn : n = 65536) : ∃ (w : World) (tape : Tape) (i : Input), w.os = os ∧ (w.forCall tape i).Shaped Trym.checked.prog ∧ i.vars = [] ∧ Input.okWide Trym.checked.prog (w.forCall tape i) .any w.heap.size 3 i ∧
      Rows.fnThaiWeighModelSpec.pre6 enc Trym.checked.prog Trym.f3 Rows.fnThaiWeighModelRow.domain false (w.forCall tape i).memory i.args ∧ ({} : Assume).holds Trym.checked.prog (lone (Frame.enter Trym.checked.prog 3 i.args .normal) [] (w.forCall tape i)) := by
  refine ⟨World.holding Trym.checked.prog os ⟨#[], wargs n, []⟩, fun _ _ => 0, ⟨#[], wargs n, []⟩, rfl, ?_, rfl, ?_, ⟨⟨_, _, _, whole_zero enc n hn _, rfl⟩, ⟨by kernel_rfl, _, _, _, whole_zero enc n hn _, light_zero⟩⟩, ?_⟩
  · exact World.shaped_of_B (w := World.plainHolding Trym.checked.prog os ⟨#[], wargs n, []⟩) (by kernel_rfl) (by kernel_rfl)
  · refine ⟨fun o ho => by simp at ho, fun g hg => by simp at hg, by kernel_rfl, Trym.f3, Trym.func3, by kernel_rfl, by kernel_rfl, by kernel_rfl, by kernel_rfl, fun j t v hj hv => ?_⟩
    exact ok_arg n hn _ _ j t v hj hv
  · simp only [Assume.holds]
    exact ⟨by simp, by simp, fun _ => Modest.zero, by simp, by simp⟩

set_option maxRecDepth 100000 in
theorem lifted (os : Os) (started : os.Started) (H : Type) (enc : TypeId × Value → H) :
    ReturnsInHanded {} Trym.checked os 3 .any (Rows.fnThaiWeighModelSpec.pre6 enc Trym.prog Trym.f3 Rows.fnThaiWeighModelRow.domain false) (Rows.fnThaiWeighModelSpec.post enc Trym.prog Trym.f3 false true false false) := by
  refine returnsInHanded_of_change (C := Trym.checked) own started (by kernel_rfl) Trym.func3 (wit os H enc 65536 rfl) ?_
  intro W base args ds gs before hval0 hW hcnd _
  have hval : ∀ (j : Nat) t v, Trym.f3.params[j]? = some t → args[j]? = some v → Value.okWide Trym.prog W .any base t v := hval0
  have hW' := hW
  obtain ⟨p, q, hA0, hV, rfl, hfz, hnd⟩ := hW
  have hA : DataW.TrodAll enc Trym.prog W 0 (fun _ => true) true Trym.f3.params.toList args.toList ds p := hA0
  rw [Trym.params3] at hA hval
  obtain ⟨v0, vs0, d0, ds0, p0, q0, hargs, rfl, rfl, h0, r0⟩ := trodAll_cons hA
  obtain ⟨v1, vs1, d1, ds1, p1, q1, rfl, rfl, rfl, h1, r1⟩ := trodAll_cons r0
  obtain ⟨v2, vs2, d2, ds2, p2, q2, rfl, rfl, rfl, h2, r2⟩ := trodAll_cons r1
  obtain ⟨v3, vs3, d3, ds3, p3, q3, rfl, rfl, rfl, h3, r3⟩ := trodAll_cons r2
  obtain ⟨v4, vs4, d4, ds4, p4, q4, rfl, rfl, rfl, h4, r4⟩ := trodAll_cons r3
  obtain ⟨v5, vs5, d5, ds5, p5, q5, rfl, rfl, rfl, h5, r5⟩ := trodAll_cons r4
  obtain ⟨v6, vs6, d6, ds6, p6, q6, rfl, rfl, rfl, h6, r6⟩ := trodAll_cons r5
  obtain ⟨rfl, rfl, rfl⟩ := trodAll_nil r6
  obtain rfl : args = #[v0, v1, v2, v3, v4, v5, v6] := by cases args; simp_all
  obtain ⟨rfl, rfl⟩ := trodVars_none hV
  have lt : ∀ {t v d p}, DataW.Trod enc Trym.prog W 0 (fun _ => true) true t v d p → ∀ x ∈ p, x.block < W.heap.size := fun h => by obtain ⟨m, hm⟩ := h; exact DataW.trod_lt m _ _ _ hm
  obtain ⟨m, rfl⟩ := okWide_map Trym.underlying22 (hval 0 22 v0 rfl rfl)
  obtain ⟨lv, lo, ml, hL⟩ := look_of h0
  obtain ⟨c1, f1, rfl, b1⟩ := open_bytes (hval 1 23 v1 rfl rfl)
  obtain ⟨c2, f2, rfl, b2⟩ := open_bools Trym.underlying24 Trym.cells24 types24 (hval 2 24 v2 rfl rfl)
  obtain ⟨c3, f3, rfl, b3⟩ := open_bytes (hval 3 23 v3 rfl rfl)
  obtain ⟨c4, f4, rfl, b4⟩ := open_bools Trym.underlying25 Trym.cells25 types25 (hval 4 25 v4 rfl rfl)
  obtain ⟨a5, len5, cap5, rfl⟩ := okWide_slice Trym.underlying26 (hval 5 26 v5 rfl rfl)
  have k5 := h5
  obtain ⟨z5, w5⟩ : ∃ zs, IsRow .u8 W a5 len5 cap5 zs := by
    obtain ⟨fuel, hf⟩ := h5
    rcases open_ints Trym.underlying26 Trym.underlying5 (by kernel_rfl) hf with ⟨hcs, _⟩ | ⟨x, l, c, zs, hcs, _, hl, hm, hz, _, hcell, hwz⟩
    · simp [Value.cells] at hcs
      obtain ⟨rfl, rfl, rfl⟩ := hcs
      exact ⟨[], .inl ⟨rfl, rfl, rfl, rfl⟩⟩
    · simp [Value.cells] at hcs
      obtain ⟨rfl, rfl, rfl⟩ := hcs
      exact ⟨zs, .inr ⟨_, rfl, hl, hm, by simpa using hz, hcell, hwz⟩⟩
  have k6 := h6
  obtain ⟨s, rfl, rfl, rfl, hs⟩ := open_string Trym.underlying9 (hval 6 9 v6 rfl rfl) h6
  clear hA0 hval0
  refine (walk m c1 c2 c3 c4 f1 f2 f3 f4 a5 len5 cap5 z5 s lv lo ml W hL b1 b2 b3 b4 w5 hs).mono fun e W' ⟨he, bel⟩ => ?_
  subst he
  have back : ∀ {t v d p}, Trym.prog.readableRec t = true → t < Trym.prog.types.size → DataW.Trod enc Trym.prog W 0 (fun _ => true) true t v d p → DataW.Trod enc Trym.prog W' 0 (fun b => decide (b < W.heap.size)) true t v d p := fun hr ht h => Below.trod laidOut hr ht h bel (lt h)
  exact ⟨_, rfl, _, _, _, [], _, [], hW', trodAll_mk1 (shut_bool Trym.underlying4 _), (trodAll_cons_mk (back (by kernel_rfl) (of_decide_eq_true (by kernel_rfl)) h0) (trodAll_cons_mk (back (by kernel_rfl) (of_decide_eq_true (by kernel_rfl)) h1) (trodAll_cons_mk (back (by kernel_rfl) (of_decide_eq_true (by kernel_rfl)) h2) (trodAll_cons_mk (back (by kernel_rfl) (of_decide_eq_true (by kernel_rfl)) h3) (trodAll_cons_mk (back (by kernel_rfl) (of_decide_eq_true (by kernel_rfl)) h4) (trodAll_cons_mk (back (by kernel_rfl) (of_decide_eq_true (by kernel_rfl)) k5) (trodAll_cons_mk (shut_string Trym.underlying9 hs) trodAll_mk0))))))), rfl, bel.frame _, fun h => by cases h⟩

theorem over : Rows.fnThaiWeighModelRow.holds Trym.pinned (OpenSpec.ofChange Rows.fnThaiWeighModelSpec) :=
  OpenClaim.holds_of_wide 3 Trym.f3 rfl rfl rfl rfl rfl rfl rfl ⟨rfl, rfl, rfl, rfl, rfl⟩ rfl rfl rfl rfl rfl (by kernel_rfl) Trym.func3 (by kernel_rfl)
    (of_decide_eq_true (by kernel_rfl)) (by unfold Func.isWrapper; first | (rw [if_pos (by decide +kernel)]; kernel_rfl) | (rw [if_neg (by decide +kernel)]; exact ⟨rfl, rfl⟩))
    (fun os started H enc _ => lifted os started H enc)
end Go.Proofs.Qxb6602158aMods.fnThaiWeighModel

namespace Go.Proofs.Qxb6602158aMods
/-- THE STATEMENT -/
theorem FnThaiWeighModel_proved : Rows.FnThaiWeighModelSaid := fnThaiWeighModel.over
end Go.Proofs.Qxb6602158aMods
