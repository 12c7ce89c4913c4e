/-
  'Rows.FnEndOfNumberReadsAWrittenIntegerSaid': the frame, and the walk: the ways on which the law says true at once, and the rest by 'written_core'.
-/
import Derived.Test.Qxb6602172aModsRows
import Derived.Test.Qxb6602172aModsWritten
import Derived.WalkKit
import Derived.ProofKit
import Derived.OpenShut
import Derived.ShutString
import Derived.ChangeOld
import Derived.Below
namespace Go.Proofs.Qxb6602172aMods.fnEndOfNumberReadsAWrittenInteger
open Go.ChangeShapes Go.WideShapes Go.ChangeAt Go.RowKit
open Go.ChangeMaps (open_string shut_string)
set_option linter.unusedVariables false

theorem own : ownKnob Trym.prog.godebug = none := by kernel_rfl
theorem laidOut : laidOutB Trym.prog = true := by kernel_rfl

/-- WHAT THE WALK IS TOLD OF A SLICE OF INTEGERS THAT CAME IN: it is nil; or it leads to a row of 'cap' cells, the numbers 'zs' (the first 'len' are its elements, the rest its spare room), each fitting its kind. -/
def IsRow (k : IntKind) (w : World) (a : Option Addr) (len cap : Nat) (zs : List Int) : Prop :=
  (a = none ∧ len = 0 ∧ cap = 0 ∧ zs = []) ∨
  ∃ x, a = some x ∧ len ≤ cap ∧ cap ≤ maxLen ∧ zs.length = cap ∧ (∀ i, i < zs.length → w.cell? (x.add i) = some (.int k (zs.getD i 0))) ∧ ∀ n ∈ zs, (Lit.int k n).wf = true

/-! ### THE WALK -/
set_option maxHeartbeats 1000000 in
/-- The tail goes on with a number: true at once. -/
theorem early (n : Int) (b off len cap : Nat) (c : Int) (w : World) (hlen : len ≤ 1048576) (hp : 0 < len) (hc : w.cell? ⟨b, off, none⟩ = some (.int .u8 c)) (hb : 0 ≤ c ∧ c ≤ 255) (hg : goesOn c) :
    Calls Trym.prog 8 #[.int .i64 n, .slice (some ⟨b, off, none⟩) len cap] w fun e w' => e = .returned (.bool true) ∧ Below w.heap.size w w' := by
  by_cases h1 : dig c = true
  · clear hg
    go_enter Trym.func8, Trym.ntmps8
    go_wp2_with (first | (go_at_call 18; go_in) | (go_at_call 19; refine (digit_any c w hb).mono ?_; rintro e w' ⟨rfl, rfl⟩; rw [h1]))
    go_ret
    exact ⟨rfl, Below.refl _ _⟩
  have h1' : dig c = false := by simpa using h1
  clear h1
  have hg' : c = 46 ∨ c = 101 ∨ c = 69 := by unfold goesOn at hg; unfold dig at h1'; simp at h1'; omega
  clear hg
  rcases hg' with rfl | rfl | rfl
  all_goals
    go_enter Trym.func8, Trym.ntmps8
    go_wp2_with (first | (go_at_call 18; go_in) | (go_at_call 19; refine (digit_any _ w hb).mono ?_; rintro e w' ⟨rfl, rfl⟩; rw [h1']))
    go_ret
    exact ⟨rfl, Below.refl _ _⟩

theorem walk (a0 : Int) (a1 : Option Addr) (len1 cap1 : Nat) (z1 : List Int) (w : World) (w0 : (Lit.int .i64 a0).wf = true) (w1 : IsRow .u8 w a1 len1 cap1 z1) :
    Calls Trym.prog 8 #[.int .i64 a0, .slice a1 len1 cap1] w fun e w' => e = .returned (.bool true) ∧ Below w.heap.size w w' := by
  have bn := bounds_i64 w0
  by_cases hbig : 1048576 < len1
  · go_enter Trym.func8, Trym.ntmps8
    go_wp2
    go_ret
    exact ⟨rfl, Below.refl _ _⟩
  by_cases hg : 0 < len1 ∧ goesOn (z1.getD 0 0)
  · obtain ⟨hp, hg⟩ := hg
    rcases w1 with ⟨rfl, rfl, rfl, rfl⟩ | ⟨x, rfl, hl, hm, hz, hcell, hwz⟩
    · omega
    obtain ⟨b, off, rfl, hc⟩ := ints_at hcell (by omega)
    have hb0 : 0 ≤ z1.getD 0 0 ∧ z1.getD 0 0 ≤ 255 := by simpa using range_u8 hwz 0
    exact early a0 b off len1 cap1 (z1.getD 0 0) w (by omega) hp (by simpa using hc 0 (by omega)) hb0 hg
  rcases w1 with ⟨rfl, rfl, rfl, rfl⟩ | ⟨x, rfl, hl, hm, hz, hcell, hwz⟩
  · exact written_core a0 none 0 [] w bn.1 bn.2 (by simp) (fun y hy => by simp at hy) (fun h => by simp at h) (.inl ⟨rfl, rfl, rfl⟩)
  have el : (z1.take len1).length = len1 := by simp; omega
  have eg : ∀ j, j < len1 → (z1.take len1).getD j 0 = z1.getD j 0 := fun j hj => by simp [hj]
  have core := written_core a0 (some x) cap1 (z1.take len1) w bn.1 bn.2 (by omega) (fun y hy => bounds_u8 (hwz y (List.mem_of_mem_take hy))) (fun h => by
      rw [el] at h
      rw [eg 0 h]
      exact fun k => hg ⟨h, k⟩) (.inr ⟨x, rfl, fun h => by
        rw [el] at h
        obtain ⟨b, off, rfl, hc⟩ := ints_at hcell (by omega)
        exact ⟨b, off, rfl, fun j hj => by rw [el] at hj; rw [eg j hj]; exact hc j (by omega)⟩⟩)
  rw [el] at core
  exact core

/-! ### THE ROW's STEP: WRITTEN OUT: LEAVE IT -/
set_option maxRecDepth 100000 in
theorem lifted (os : Os) (started : os.Started) (H : Type) (enc : TypeId × Value → H) :
    ReturnsInHanded {} Trym.checked os 8 .any (Rows.fnEndOfNumberReadsAWrittenIntegerSpec.pre6 enc Trym.prog Trym.f8 Rows.fnEndOfNumberReadsAWrittenIntegerRow.domain false) (Rows.fnEndOfNumberReadsAWrittenIntegerSpec.post enc Trym.prog Trym.f8 false true false false) := by
  refine returnsInHanded_of_change (C := Trym.checked) own started (by kernel_rfl) Trym.func8
    (ChangeSpec.witness6 (enc := enc) (C := Trym.checked) false ⟨#[], #[.int .i64 0, .slice none 0 0], []⟩ 8 (by kernel_rfl) (by kernel_rfl) (by kernel_rfl) (by kernel_rfl)) ?_
  intro W base args ds gs before hval0 hW hcnd _
  have hval : ∀ (j : Nat) t v, Trym.f8.params[j]? = some t → args[j]? = some v → Value.okWide Trym.prog W .any base t v := hval0
  have hW' := hW
  obtain ⟨p, q, hA0, hV, rfl, hfz, hnd⟩ := hW
  have hA : DataW.TrodAll enc Trym.prog W 0 (fun _ => true) true Trym.f8.params.toList args.toList ds p := hA0
  rw [Trym.params8] at hA hval
  obtain ⟨v0, vs0, d0, ds0, p0, q0, hargs, rfl, rfl, h0, r0⟩ := trodAll_cons hA
  obtain ⟨v1, vs1, d1, ds1, p1, q1, rfl, rfl, rfl, h1, r1⟩ := trodAll_cons r0
  obtain ⟨rfl, rfl, rfl⟩ := trodAll_nil r1
  obtain rfl : args = #[v0, v1] := by cases args; simp_all
  obtain ⟨rfl, rfl⟩ := trodVars_none hV
  obtain ⟨a0, rfl, rfl, rfl, w0⟩ := open_int Trym.underlying2 (hval 0 2 v0 rfl rfl) h0
  obtain ⟨a1, len1, cap1, rfl⟩ := okWide_slice Trym.underlying23 (hval 1 23 v1 rfl rfl)
  have k1 := h1
  have lt1 : ∀ x ∈ p1, x.block < W.heap.size := by obtain ⟨m, hm⟩ := k1; exact DataW.trod_lt m _ _ _ hm
  obtain ⟨z1, w1⟩ : ∃ zs, IsRow .u8 W a1 len1 cap1 zs := by
    obtain ⟨fuel, hf⟩ := h1
    rcases open_ints Trym.underlying23 Trym.underlying5 (by kernel_rfl) hf with ⟨hcs, _⟩ | ⟨x, l, c, zs, hcs, _, hl, hm, hz, _, hcell, hwz⟩
    · simp [Value.cells] at hcs
      obtain ⟨rfl, rfl, rfl⟩ := hcs
      exact ⟨[], .inl ⟨rfl, rfl, rfl, rfl⟩⟩
    · simp [Value.cells] at hcs
      obtain ⟨rfl, rfl, rfl⟩ := hcs
      exact ⟨zs, .inr ⟨_, rfl, hl, hm, by simpa using hz, hcell, hwz⟩⟩
  clear hA0 hval0
  refine (walk a0 a1 len1 cap1 z1 W w0 w1).mono fun e W' ⟨he, bel⟩ => ?_
  subst he
  exact ⟨_, rfl, _, _, _, [], _, [], hW', trodAll_mk1 (shut_bool Trym.underlying4 _), (trodAll_cons_mk (shut_int Trym.underlying2 w0) (trodAll_cons_mk (Below.trod laidOut (by kernel_rfl) (of_decide_eq_true (by kernel_rfl)) k1 bel lt1) trodAll_mk0)), rfl, bel.frame _, fun h => by cases h⟩

theorem over : Rows.fnEndOfNumberReadsAWrittenIntegerRow.holds Trym.pinned (OpenSpec.ofChange Rows.fnEndOfNumberReadsAWrittenIntegerSpec) :=
  OpenClaim.holds_of_wide 8 Trym.f8 rfl rfl rfl rfl rfl rfl rfl ⟨rfl, rfl, rfl, rfl, rfl⟩ rfl rfl rfl rfl rfl (by kernel_rfl) Trym.func8 (by kernel_rfl)
    (of_decide_eq_true (by kernel_rfl)) (by unfold Func.isWrapper; first | (rw [if_pos (by decide +kernel)]; kernel_rfl) | (rw [if_neg (by decide +kernel)]; exact ⟨rfl, rfl⟩))
    (fun os started H enc _ => lifted os started H enc)

/-- ████ THE STATEMENT ████ -/
theorem proved : Rows.FnEndOfNumberReadsAWrittenIntegerSaid := over
end Go.Proofs.Qxb6602172aMods.fnEndOfNumberReadsAWrittenInteger
namespace Go.Proofs.Qxb6602172aMods
/-- THE STATEMENT, under a short name. -/
theorem FnEndOfNumberReadsAWrittenInteger_proved : Rows.FnEndOfNumberReadsAWrittenIntegerSaid := fnEndOfNumberReadsAWrittenInteger.proved
end Go.Proofs.Qxb6602172aMods
