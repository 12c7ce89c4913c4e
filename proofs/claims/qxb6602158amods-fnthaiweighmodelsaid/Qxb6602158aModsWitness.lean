/-
  One input that fits, for the two laws (their parameters are the same): made by hand, for a kernel's run over 65,536 cells is too dear.
-/
import Derived.Test.Qxb6602158aModsRows
import Derived.WalkKit
import Derived.ProofKit
import Derived.OpenShut
import Derived.ShutString
import Derived.ChangeOld
import Derived.Below
namespace Go.Proofs.Qxb6602158aMods
open Go.ChangeShapes Go.WideShapes Go.ChangeAt Go.RowKit
open Go.ChangeMaps (open_string shut_string shut_map_nil)
set_option linter.unusedVariables false

theorem own : ownKnob Trym.prog.godebug = none := by kernel_rfl
theorem laidOut : laidOutB Trym.prog = true := by kernel_rfl
theorem Trym.cells4 : Trym.prog.cellsOf 4 = 1 := by kernel_rfl
theorem Trym.cells5 : Trym.prog.cellsOf 5 = 1 := by kernel_rfl
theorem Trym.cells23 : Trym.prog.cellsOf 23 = 256 := by kernel_rfl
theorem Trym.cells24 : Trym.prog.cellsOf 24 = 256 := by kernel_rfl
theorem Trym.cells25 : Trym.prog.cellsOf 25 = 65536 := by kernel_rfl
theorem Trym.deep : ∃ d, Trym.prog.depth = d + 3 := ⟨2 * (Trym.prog.types.size + Made.depth) - 1, by unfold Program.depth Made.depth; omega⟩

theorem mapM_const {α β : Type} (g : α → Option β) (x : β) : ∀ l : List α, (∀ a ∈ l, g a = some x) → l.mapM g = some (List.replicate l.length x)
  | [], _ => rfl
  | a :: l, h => by
    rw [List.mapM_cons, h a (by simp), mapM_const g x l (fun b hb => h b (by simp [hb]))]
    rfl

section
variable {H : Type} {enc : TypeId × Value → H} {P : Program} {w : World} {base : Nat} {spare : Nat → Bool} {held : Bool}

theorem trod_array_mk {t e : TypeId} {n fuel : Nat} {cs : List Value} {x : DataW H} (ht : P.underlying t = some (.array n e)) (hl : cs.length = P.cellsOf t)
    (h : ∀ i, i < n → DataW.trod enc P w base spare held fuel e ((cs.drop (i * P.cellsOf e)).take (P.cellsOf e)) = some (x, [])) :
    DataW.trod enc P w base spare held (fuel + 1) t cs = some (.agg (List.replicate n x), []) := by
  unfold DataW.trod
  rw [ht]
  have hm := mapM_const (fun i => DataW.trod enc P w base spare held fuel e ((cs.drop (i * P.cellsOf e)).take (P.cellsOf e))) (x, []) (List.range n) (fun a ha => h a (List.mem_range.1 ha))
  rw [List.length_range] at hm
  have hz : ∀ n : Nat, (List.replicate n (x, ([] : List MemPlace))).flatMap (·.2) = [] := by
    intro n
    induction n with
    | zero => rfl
    | succ n ih => rw [List.replicate_succ, List.flatMap_cons, ih]; rfl
  split <;> simp_all

theorem weightsAll_nil {e : TypeId} {x : DataW H} (h : x.weights P e = []) : ∀ n : Nat, DataW.weightsAll P e (List.replicate n x) = []
  | 0 => rfl
  | n + 1 => by rw [List.replicate_succ, DataW.weightsAll, h, weightsAll_nil h n]; rfl
end

section
variable {H : Type} {enc : TypeId × Value → H} {w : World} {base : Nat} {spare : Nat → Bool} {held : Bool}
theorem zero23 : DataW.trod enc Trym.prog w base spare held 2 23 (List.replicate 256 (.int .u8 0)) = some (.agg (List.replicate 256 (.lit (.int .u8 0))), []) := by
  refine trod_array_mk Trym.underlying23 (by rw [Trym.cells23, List.length_replicate]) fun i hi => ?_
  rw [Trym.cells5, List.drop_replicate, List.take_replicate, show min 1 (256 - i * 1) = 1 by omega]
  simp [DataW.trod, Trym.underlying5, Lit.wf, IntKind.min, IntKind.max, IntKind.signed, IntKind.bits]
theorem zero24 : DataW.trod enc Trym.prog w base spare held 2 24 (List.replicate 256 (.bool false)) = some (.agg (List.replicate 256 (.lit (.bool false))), []) := by
  refine trod_array_mk Trym.underlying24 (by rw [Trym.cells24, List.length_replicate]) fun i hi => ?_
  rw [Trym.cells4, List.drop_replicate, List.take_replicate, show min 1 (256 - i * 1) = 1 by omega]
  simp [DataW.trod, Trym.underlying4]
theorem zero25 (n : Nat) (hn : n = 65536) : DataW.trod enc Trym.prog w base spare held 3 25 (List.replicate n (.bool false)) = some (.agg (List.replicate 256 (.agg (List.replicate 256 (.lit (.bool false))))), []) := by
  refine trod_array_mk Trym.underlying25 (by rw [Trym.cells25, List.length_replicate, hn]) fun i hi => ?_
  rw [Trym.cells24, List.drop_replicate, List.take_replicate, show min 256 (n - i * 256) = 256 by omega]
  exact zero24
end

theorem len_flat {α : Type} (l : List α) : ∀ n : Nat, ((List.replicate n l).flatten).length = n * l.length
  | 0 => by simp
  | n + 1 => by rw [List.replicate_succ, List.flatten_cons, List.length_append, len_flat l n, Nat.succ_mul]; omega

theorem types23 : ∃ ts, Trym.prog.cellTypes Trym.prog.depth 23 = some ts ∧ ts.length = 256 ∧ ∀ u ∈ ts, u = 5 := by
  obtain ⟨d, hd⟩ := Trym.deep
  refine ⟨(List.replicate 256 [5]).flatten, ?_, by rw [len_flat]; rfl, fun u hu => ?_⟩
  · rw [hd]; simp only [Program.cellTypes, Trym.underlying23, Trym.underlying5, Option.map_some]
  · simp only [List.mem_flatten, List.mem_replicate] at hu
    obtain ⟨l, ⟨_, rfl⟩, h⟩ := hu
    simpa using h
theorem types24 : ∃ ts, Trym.prog.cellTypes Trym.prog.depth 24 = some ts ∧ ts.length = 256 ∧ ∀ u ∈ ts, u = 4 := by
  obtain ⟨d, hd⟩ := Trym.deep
  refine ⟨(List.replicate 256 [4]).flatten, ?_, by rw [len_flat]; rfl, fun u hu => ?_⟩
  · rw [hd]; simp only [Program.cellTypes, Trym.underlying24, Trym.underlying4, Option.map_some]
  · simp only [List.mem_flatten, List.mem_replicate] at hu
    obtain ⟨l, ⟨_, rfl⟩, h⟩ := hu
    simpa using h
theorem types25 : ∃ ts, Trym.prog.cellTypes Trym.prog.depth 25 = some ts ∧ ts.length = 65536 ∧ ∀ u ∈ ts, u = 4 := by
  obtain ⟨d, hd⟩ := Trym.deep
  refine ⟨(List.replicate 256 ((List.replicate 256 [4]).flatten)).flatten, ?_, by rw [len_flat, len_flat]; rfl, fun u hu => ?_⟩
  · rw [hd]; simp only [Program.cellTypes, Trym.underlying25, Trym.underlying24, Trym.underlying4, Option.map_some]
  · simp only [List.mem_flatten, List.mem_replicate] at hu
    obtain ⟨l, ⟨_, rfl⟩, h⟩ := hu
    simp only [List.mem_flatten, List.mem_replicate] at h
    obtain ⟨l, ⟨_, rfl⟩, h⟩ := h
    simpa using h

theorem ok_row {t e : TypeId} {n : Nat} {v : Value} {w : World} {base : Nat} (hn : 0 < n) (ht : ∃ ts, Trym.prog.cellTypes Trym.prog.depth t = some ts ∧ ts.length = n ∧ ∀ u ∈ ts, u = e)
    (he : Cell.okWide Trym.prog w .any base e v) : Row.okWide Trym.prog w .any base t (Array.replicate n v) := by
  obtain ⟨ts, h1, h2, h3⟩ := ht
  refine ⟨ts, h1, ⟨1, by simp [h2]⟩, fun i x hx => ?_⟩
  have hx' : x = v := by
    rw [Array.getElem?_replicate] at hx
    split at hx
    · exact (Option.some.inj hx).symm
    · cases hx
  have hlt : i % ts.length < ts.length := Nat.mod_lt _ (by omega)
  refine ⟨ts[i % ts.length], List.getElem?_eq_getElem hlt, ?_⟩
  rw [h3 _ (List.getElem_mem hlt), hx']
  exact he

def wargs (n : Nat) : Array Value := #[.map none, .agg (Array.replicate 256 (.int .u8 0)), .agg (Array.replicate 256 (.bool false)), .agg (Array.replicate 256 (.int .u8 0)), .agg (Array.replicate n (.bool false)), .slice none 0 0, .string ByteArray.empty]

theorem ok_arg (n : Nat) (hn : n = 65536) (w : World) (base j : Nat) (t : TypeId) (v : Value) (hj : (#[22, 23, 24, 23, 25, 26, 9] : Array TypeId)[j]? = some t) (hv : (wargs n)[j]? = some v) : Value.okWide Trym.prog w .any base t v := by
  have r5 : Cell.okWide Trym.prog w .any base 5 (.int .u8 0) := by unfold Cell.okWide Cell.ok; rw [Trym.underlying5]; exact ⟨rfl, by unfold IntKind.has; decide⟩
  have r4 : Cell.okWide Trym.prog w .any base 4 (.bool false) := by unfold Cell.okWide Cell.ok; rw [Trym.underlying4]; trivial
  match j, hj, hv with
  | 0, hj, hv => obtain rfl : 22 = t := Option.some.inj hj; obtain rfl : (.map none : Value) = v := Option.some.inj hv; unfold Value.okWide; rw [Trym.underlying22]; unfold Cell.okWide; rw [Trym.underlying22]; trivial
  | 1, hj, hv => obtain rfl : 23 = t := Option.some.inj hj; obtain rfl : (.agg (Array.replicate 256 (.int .u8 0)) : Value) = v := Option.some.inj hv; unfold Value.okWide; rw [Trym.underlying23]; exact ⟨_, rfl, by rw [Trym.cells23, Array.size_replicate], ok_row (by omega) types23 r5⟩
  | 2, hj, hv => obtain rfl : 24 = t := Option.some.inj hj; obtain rfl : (.agg (Array.replicate 256 (.bool false)) : Value) = v := Option.some.inj hv; unfold Value.okWide; rw [Trym.underlying24]; exact ⟨_, rfl, by rw [Trym.cells24, Array.size_replicate], ok_row (by omega) types24 r4⟩
  | 3, hj, hv => obtain rfl : 23 = t := Option.some.inj hj; obtain rfl : (.agg (Array.replicate 256 (.int .u8 0)) : Value) = v := Option.some.inj hv; unfold Value.okWide; rw [Trym.underlying23]; exact ⟨_, rfl, by rw [Trym.cells23, Array.size_replicate], ok_row (by omega) types23 r5⟩
  | 4, hj, hv => obtain rfl : 25 = t := Option.some.inj hj; obtain rfl : (.agg (Array.replicate n (.bool false)) : Value) = v := Option.some.inj hv; unfold Value.okWide; rw [Trym.underlying25]; exact ⟨_, rfl, by rw [Trym.cells25, Array.size_replicate, hn], ok_row (by omega) (by rw [hn]; exact types25) r4⟩
  | 5, hj, hv => obtain rfl : 26 = t := Option.some.inj hj; obtain rfl : (.slice none 0 0 : Value) = v := Option.some.inj hv; unfold Value.okWide; rw [Trym.underlying26]; unfold Cell.okWide Cell.ok; rw [Trym.underlying26]; trivial
  | 6, hj, hv => obtain rfl : 9 = t := Option.some.inj hj; obtain rfl : (.string ByteArray.empty : Value) = v := Option.some.inj hv; unfold Value.okWide; rw [Trym.underlying9]; unfold Cell.okWide Cell.ok; rw [Trym.underlying9]; show ((ByteArray.empty.size : Nat) : Int) ≤ IntKind.i64.max; decide
  | m + 7, hj, hv => cases hj

theorem whole_zero {H : Type} (enc : TypeId × Value → H) (n : Nat) (hn : n = 65536) (w : World) :
    DataW.Whole enc Trym.prog [22, 23, 24, 23, 25, 26, 9] [] false w (wargs n).toList
      [.nil, .agg (List.replicate 256 (.lit (.int .u8 0))), .agg (List.replicate 256 (.lit (.bool false))), .agg (List.replicate 256 (.lit (.int .u8 0))), .agg (List.replicate 256 (.agg (List.replicate 256 (.lit (.bool false))))), .nil, .lit (.string [])] [] [] := by
  refine ⟨[], [], ?_, rfl, rfl, fun b off h => (by simp at h), fun h => (by cases h)⟩
  have t1 : DataW.Trod enc Trym.prog w 0 (fun _ => true) true 23 (.agg (Array.replicate 256 (.int .u8 0))) (.agg (List.replicate 256 (.lit (.int .u8 0)))) [] := ⟨2, by simp only [Value.cells, Array.toList_replicate]; exact zero23⟩
  have t2 : DataW.Trod enc Trym.prog w 0 (fun _ => true) true 24 (.agg (Array.replicate 256 (.bool false))) (.agg (List.replicate 256 (.lit (.bool false)))) [] := ⟨2, by simp only [Value.cells, Array.toList_replicate]; exact zero24⟩
  have t3 : DataW.Trod enc Trym.prog w 0 (fun _ => true) true 25 (.agg (Array.replicate n (.bool false))) (.agg (List.replicate 256 (.agg (List.replicate 256 (.lit (.bool false)))))) [] := ⟨3, by simp only [Value.cells, Array.toList_replicate]; exact zero25 n hn⟩
  exact trodAll_cons_mk (p := []) (shut_map_nil Trym.underlying22) (trodAll_cons_mk (p := []) t1 (trodAll_cons_mk (p := []) t2 (trodAll_cons_mk (p := []) t1 (trodAll_cons_mk (p := []) t3 (trodAll_cons_mk (p := []) (shut_slice_nil Trym.underlying26)
    (trodAll_cons_mk (p := []) (shut_string Trym.underlying9 (by decide)) trodAll_mk0))))))

theorem light_zero {H : Type} : (DataW.weightsEach (H := H) Trym.prog [22, 23, 24, 23, 25, 26, 9]
      [.nil, .agg (List.replicate 256 (.lit (.int .u8 0))), .agg (List.replicate 256 (.lit (.bool false))), .agg (List.replicate 256 (.lit (.int .u8 0))), .agg (List.replicate 256 (.agg (List.replicate 256 (.lit (.bool false))))), .nil, .lit (.string [])]).all (· ≤ reachBytes) = true := by
  have a1 : (DataW.lit (H := H) (.int .u8 0)).weights Trym.prog 5 = [] := rfl
  have a2 : (DataW.lit (H := H) (.bool false)).weights Trym.prog 4 = [] := rfl
  have b1 : (DataW.agg (H := H) (List.replicate 256 (.lit (.int .u8 0)))).weights Trym.prog 23 = [] := by rw [DataW.weights, Trym.underlying23]; exact weightsAll_nil a1 256
  have b2 : (DataW.agg (H := H) (List.replicate 256 (.lit (.bool false)))).weights Trym.prog 24 = [] := by rw [DataW.weights, Trym.underlying24]; exact weightsAll_nil a2 256
  have b3 : (DataW.agg (H := H) (List.replicate 256 (.agg (List.replicate 256 (.lit (.bool false)))))).weights Trym.prog 25 = [] := by rw [DataW.weights, Trym.underlying25]; exact weightsAll_nil b2 256
  simp only [DataW.weightsEach, b1, b2, b3]
  rfl
end Go.Proofs.Qxb6602158aMods
