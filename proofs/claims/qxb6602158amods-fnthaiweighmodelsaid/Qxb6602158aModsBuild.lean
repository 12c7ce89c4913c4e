/-
  'Op.build 44': a 'thaiWeights' of 66,308 cells, made of its parts: told by its cells, never written out.
-/
import Derived.Test.Qxb6602158aModsOpen
namespace Go.Proofs.Qxb6602158aMods
open Go.ChangeShapes Go.WideShapes Go.ChangeAt Go.RowKit
set_option linter.unusedVariables false

/-- The cells of v laid into cs from off on. -/
def lay (cs : Array Value) (off : Nat) (v : Array Value) : Array Value := v.zipIdx.foldl (fun cs x => cs.setIfInBounds (off + x.2) x.1) cs

theorem layL_size (off : Nat) : ∀ (l : List (Value × Nat)) (cs : Array Value), (l.foldl (fun cs x => cs.setIfInBounds (off + x.2) x.1) cs).size = cs.size
  | [], _ => rfl
  | x :: l, cs => by rw [List.foldl_cons, layL_size off l]; simp

theorem lay_size (cs : Array Value) (off : Nat) (v : Array Value) : (lay cs off v).size = cs.size := by
  unfold lay
  rw [← Array.foldl_toList]
  exact layL_size off _ cs

theorem layL_get (off : Nat) : ∀ (l : List Value) (k : Nat) (cs : Array Value) (i : Nat), off + k + l.length ≤ cs.size →
    ((l.zipIdx k).foldl (fun cs x => cs.setIfInBounds (off + x.2) x.1) cs)[i]? = if off + k ≤ i ∧ i < off + k + l.length then l[i - (off + k)]? else cs[i]?
  | [], k, cs, i, h => by
    rw [List.zipIdx_nil, List.foldl_nil, if_neg]
    simp only [List.length_nil]
    omega
  | x :: l, k, cs, i, h => by
    simp only [List.length_cons] at h
    rw [List.zipIdx_cons, List.foldl_cons, layL_get off l (k + 1) _ i (by simp; omega)]
    by_cases e : i = off + k
    · subst e
      rw [if_neg (by omega), if_pos (by simp only [List.length_cons]; omega), Array.getElem?_setIfInBounds]
      simp
      omega
    · by_cases e2 : off + (k + 1) ≤ i ∧ i < off + (k + 1) + l.length
      · rw [if_pos e2, if_pos (by simp only [List.length_cons]; omega)]
        obtain ⟨m, hm⟩ : ∃ m, i - (off + k) = m + 1 := ⟨i - (off + k) - 1, by omega⟩
        rw [hm, List.getElem?_cons_succ]
        congr 1
        omega
      · rw [if_neg e2, if_neg (by simp only [List.length_cons]; omega), Array.getElem?_setIfInBounds, if_neg (by omega)]

theorem lay_get (cs : Array Value) (off : Nat) (v : Array Value) (i : Nat) (h : off + v.size ≤ cs.size) :
    (lay cs off v)[i]? = if off ≤ i ∧ i < off + v.size then v[i - off]? else cs[i]? := by
  unfold lay
  rw [← Array.foldl_toList, Array.toList_zipIdx]
  have := layL_get off v.toList 0 cs i (by simpa using h)
  simpa using this

theorem Trym.zero44 : ∃ z : Array Value, z.size = 66308 ∧ ∀ w : World, (zeroValue 44).run Trym.prog w = .ok (.agg z) w := by
  have h : (Trym.prog.info? 44).map (fun i => i.zero.map (fun z => (match z with | .agg _ => true | _ => false, z.cells.size))) = some (some (true, 66308)) := by kernel_rfl
  cases hi : Trym.prog.info? 44 with
  | none => rw [hi] at h; cases h
  | some i =>
    rw [hi] at h
    simp only [Option.map_some, Option.some.injEq] at h
    cases hz : i.zero with
    | none => rw [hz] at h; cases h
    | some z =>
      rw [hz] at h
      simp only [Option.map_some, Option.some.injEq, Prod.mk.injEq] at h
      cases z <;> simp at h
      rename_i c
      refine ⟨c, h, fun w => ?_⟩
      simp [zeroValue, typeInfo, hi, hz]

theorem fill_step {place : Nat → Option (Nat × Nat)} {cells : Array Value} {i off size : Nat} {v : Value} {rest : List (Nat × Value)} (hp : place i = some (off, size)) (hs : v.cells.size = size) (hb : off + size ≤ cells.size) :
    Instr.fill place cells ((i, v) :: rest) = Instr.fill place (lay cells off v.cells) rest := by
  rw [Instr.fill, hp]
  dsimp only
  rw [if_neg (by rw [hs]; simp; omega)]
  rfl

theorem run_build44 (w : World) (b : Nat) (c1 c2 c3 c4 : Array Value) (h1 : c1.size = 256) (h2 : c2.size = 256) (h3 : c3.size = 256) (h4 : c4.size = 65536) :
    ∃ z : Array Value, z.size = 66308 ∧ (Instr.build 44 #[(0, .pointer (some ⟨b, 0, none⟩)), (1, .agg c1), (2, .agg c2), (3, .agg c3), (4, .agg c4)]).run Trym.prog w =
      .ok (.agg (lay (lay (lay (lay (lay z 0 #[.pointer (some ⟨b, 0, none⟩)]) 1 c1) 257 c2) 513 c3) 769 c4)) w := by
  obtain ⟨z, hz, hrun⟩ := Trym.zero44
  refine ⟨z, hz, ?_⟩
  unfold Instr.build
  simp only [Sem.run_bind, hrun, Result.andThen_ok, run_underlying Trym.underlying44, Value.cells]
  simp
  rw [fill_step (off := 0) (size := 1) rfl rfl (by rw [hz]; omega), fill_step (v := .agg c1) (off := 1) (size := 256) rfl h1 (by simp only [lay_size, hz]; omega), fill_step (v := .agg c2) (off := 257) (size := 256) rfl h2 (by simp only [lay_size, hz]; omega),
    fill_step (v := .agg c3) (off := 513) (size := 256) rfl h3 (by simp only [lay_size, hz]; omega), fill_step (v := .agg c4) (off := 769) (size := 65536) rfl h4 (by simp only [lay_size, hz]; omega)]
  rfl

/-- What the walk is told of a 'thaiWeights' that was built. -/
structure Built (ct : Array Value) (b : Nat) (c1 c2 c3 c4 : Array Value) : Prop where
  size : ct.size = 66308
  head : ct[0]? = some (.pointer (some ⟨b, 0, none⟩))
  weight : ∀ i, i < 256 → ct[1 + i]? = c1[i]?
  moves : ∀ i, i < 256 → ct[257 + i]? = c2[i]?
  adds : ∀ i, i < 256 → ct[513 + i]? = c3[i]?
  swaps : ∀ i, i < 65536 → ct[769 + i]? = c4[i]?

theorem built (z : Array Value) (hz : z.size = 66308) (b : Nat) (c1 c2 c3 c4 : Array Value) (h1 : c1.size = 256) (h2 : c2.size = 256) (h3 : c3.size = 256) (h4 : c4.size = 65536) :
    Built (lay (lay (lay (lay (lay z 0 #[.pointer (some ⟨b, 0, none⟩)]) 1 c1) 257 c2) 513 c3) 769 c4) b c1 c2 c3 c4 := by
  have g4 := fun i => lay_get (lay (lay (lay (lay z 0 #[.pointer (some ⟨b, 0, none⟩)]) 1 c1) 257 c2) 513 c3) 769 c4 i (by simp only [lay_size, hz]; omega)
  have g3 := fun i => lay_get (lay (lay (lay z 0 #[.pointer (some ⟨b, 0, none⟩)]) 1 c1) 257 c2) 513 c3 i (by simp only [lay_size, hz]; omega)
  have g2 := fun i => lay_get (lay (lay z 0 #[.pointer (some ⟨b, 0, none⟩)]) 1 c1) 257 c2 i (by simp only [lay_size, hz]; omega)
  have g1 := fun i => lay_get (lay z 0 #[.pointer (some ⟨b, 0, none⟩)]) 1 c1 i (by simp only [lay_size, hz]; omega)
  have g0 := fun i => lay_get z 0 #[.pointer (some ⟨b, 0, none⟩)] i (by rw [hz]; exact (by decide : 0 + 1 ≤ 66308))
  refine ⟨by simp only [lay_size, hz], ?_, fun i hi => ?_, fun i hi => ?_, fun i hi => ?_, fun i hi => ?_⟩
  · rw [g4, if_neg (by omega), g3, if_neg (by omega), g2, if_neg (by omega), g1, if_neg (by omega), g0]; rfl
  · rw [g4, if_neg (by omega), g3, if_neg (by omega), g2, if_neg (by omega), g1, if_pos (by omega), Nat.add_sub_cancel_left]
  · rw [g4, if_neg (by omega), g3, if_neg (by omega), g2, if_pos (by omega), Nat.add_sub_cancel_left]
  · rw [g4, if_neg (by omega), g3, if_pos (by omega), Nat.add_sub_cancel_left]
  · rw [g4, if_pos (by omega), Nat.add_sub_cancel_left]

/-- The law at the operation. -/
theorem wpList_build44 {ops : Array Oper} {rest : List Oper} {o : Oper} {a : Act} {w : World} {Q : Exit → Act → World → Prop} (hg : o.guard = none) (x0 x1 x2 x3 x4 : Operand)
    (ho : o.op = .build 44 #[(0, x0), (1, x1), (2, x2), (3, x3), (4, x4)]) (b : Nat) (c1 c2 c3 c4 : Array Value)
    (e0 : a.eval x0 = .pointer (some ⟨b, 0, none⟩)) (e1 : a.eval x1 = .agg c1) (e2 : a.eval x2 = .agg c2) (e3 : a.eval x3 = .agg c3) (e4 : a.eval x4 = .agg c4)
    (h1 : c1.size = 256) (h2 : c2.size = 256) (h3 : c3.size = 256) (h4 : c4.size = 65536)
    (hK : ∀ ct, Built ct b c1 c2 c3 c4 → wpList Trym.prog ops Q rest (a.put o.dst (.agg ct)) w) : wpList Trym.prog ops Q (o :: rest) a w := by
  refine wpList_plain hg fun K hK' => ?_
  obtain ⟨z, hz, hrun⟩ := run_build44 w b c1 c2 c3 c4 h1 h2 h3 h4
  have hx := hK' _ _ (hK _ (built z hz b c1 c2 c3 c4 h1 h2 h3 h4))
  generalize lay (lay (lay (lay (lay z 0 #[.pointer (some ⟨b, 0, none⟩)]) 1 c1) 257 c2) 513 c3) 769 c4 = ct at hrun hx
  unfold Oper.wp
  simp [execOp, ho, e0, e1, e2, e3, e4, hrun, Result.andThen]
  exact hx
end Go.Proofs.Qxb6602158aMods
