/-
  'ZZThaiWeigh' (function 6): it lays the receiver and calls 'weigh'; and 'cloneBytes' (function 5).
-/
import Derived.Test.Qxb6602158aModsWeigh
import Derived.Lib.BufferOwn
namespace Go.Proofs.Qxb6602158aMods
open Go.ChangeShapes Go.WideShapes Go.ChangeAt Go.RowKit
set_option linter.unusedVariables false

theorem heap_push (w : World) (o : Obj) (k : Nat) : (w.alloc o).heap[k]? = if k = w.heap.size then some o else w.heap[k]? := by
  show (w.heap.push o)[k]? = _
  rw [Array.getElem?_push]

/-- The tables as they came in. -/
def tb (wt : Nat → Int) (mv : Nat → Bool) (ad : Nat → Int) (sw : Nat → Bool) : Tb := ⟨wt, mv, ad, sw⟩

/-- What is known of the world in which the four arrays lie in boxes. -/
structure Boxed (w wB : World) (c1 c2 c3 c4 : Array Value) : Prop where
  size : wB.heap.size = w.heap.size + 1 + 1 + 1 + 1
  b1 : wB.heap[w.heap.size]? = some (.cells c1 23)
  b2 : wB.heap[w.heap.size + 1]? = some (.cells c2 24)
  b3 : wB.heap[w.heap.size + 1 + 1]? = some (.cells c3 23)
  b4 : wB.heap[w.heap.size + 1 + 1 + 1]? = some (.cells c4 25)
  below : Below w.heap.size w wB
  grown : ∀ g, w.grownBy wB g
  owns : ∀ {base t c v n l}, w.ownsRow base t c v n l → wB.ownsRow base t c v n l

theorem heap_old {w : World} {k : Nat} {x : Obj} (o : Obj) (h : w.heap[k]? = some x) : (w.alloc o).heap[k]? = some x := by
  rw [heap_push, if_neg, h]
  have := (Array.getElem?_eq_some_iff.1 h).1
  omega
theorem heap_new (w : World) (o : Obj) : (w.alloc o).heap[w.heap.size]? = some o := by rw [heap_push, if_pos rfl]

theorem boxed (w : World) (c1 c2 c3 c4 : Array Value) : Boxed w ((((w.alloc (.cells c1 23)).alloc (.cells c2 24)).alloc (.cells c3 23)).alloc (.cells c4 25)) c1 c2 c3 c4 := by
  have h1 : (w.alloc (.cells c1 23)).heap.size = w.heap.size + 1 := by simp
  have h2 : ((w.alloc (.cells c1 23)).alloc (.cells c2 24)).heap.size = w.heap.size + 1 + 1 := by simp
  have h3 : (((w.alloc (.cells c1 23)).alloc (.cells c2 24)).alloc (.cells c3 23)).heap.size = w.heap.size + 1 + 1 + 1 := by simp
  refine ⟨by simp, heap_old _ (heap_old _ (heap_old _ (heap_new _ _))), heap_old _ (heap_old _ (h1 ▸ heap_new _ _)), heap_old _ (h2 ▸ heap_new _ _), h3 ▸ heap_new _ _, ?_, fun g => ?_, fun h => (((h.alloc _).alloc _).alloc _).alloc _⟩
  · exact ((((Below.refl _ _).alloc (Nat.le_refl _) _).alloc (by omega) _).alloc (by omega) _).alloc (by omega) _
  · exact Lib.grownBy_allocR (Lib.grownBy_allocR (Lib.grownBy_allocR (Lib.grownBy_allocR (World.grownBy.refl w g) _) _) _) _

theorem cell_of {w : World} {g : Nat} {cs : Array Value} {t : TypeId} {j : Nat} {v : Value} (h : w.heap[g]? = some (.cells cs t)) (hj : cs[j]? = some v) : w.cell? ⟨g, j, none⟩ = some v := by
  simp [World.cell?, h, hj]

theorem owns_lt {w : World} {base n : Nat} {v : Value} {xs : List Value} (h : w.ownsRow base 5 1 v n xs) {g : Nat} (hg : some g = v.ownBlock) : g < w.heap.size := by
  obtain ⟨cur, hc⟩ := owns_kind h hg.symm
  exact (Array.getElem?_eq_some_iff.1 hc).1

theorem tabAt_of {w wB : World} {c1 c2 c3 c4 ct q : Array Value} {m : Option Nat} {wt : Nat → Int} {mv : Nat → Bool} {ad : Nat → Int} {sw : Nat → Bool} (hB : Boxed w wB c1 c2 c3 c4) (hct : Built ct (w.heap.size + 1 + 1 + 1 + 1) c1 c2 c3 c4)
    (h1 : IsBytes c1 256 wt) (h2 : IsBools c2 256 mv) (h3 : IsBytes c3 256 ad) (h4 : IsBools c4 65536 sw) (hq : q[6]? = some (.map m)) :
    TabAt ((wB.alloc (.cells q 42)).alloc (.cells ct 44)) (w.heap.size + 1 + 1 + 1 + 1 + 1) (w.heap.size + 1 + 1 + 1 + 1) m (tb wt mv ad sw) := by
  have a1 : ((wB.alloc (.cells q 42)).alloc (.cells ct 44)).heap[w.heap.size + 1 + 1 + 1 + 1]? = some (.cells q 42) := by
    have := heap_new wB (.cells q 42)
    rw [hB.size] at this
    exact heap_old _ this
  have a2 : ((wB.alloc (.cells q 42)).alloc (.cells ct 44)).heap[w.heap.size + 1 + 1 + 1 + 1 + 1]? = some (.cells ct 44) := by
    have := heap_new (wB.alloc (.cells q 42)) (.cells ct 44)
    rw [show (wB.alloc (.cells q 42)).heap.size = w.heap.size + 1 + 1 + 1 + 1 + 1 by simp [hB.size]] at this
    exact this
  exact ⟨cell_of a2 hct.head, cell_of a1 hq, fun i hi => cell_of a2 ((hct.weight i hi).trans (h1.2.1 i hi)), fun i hi => cell_of a2 ((hct.moves i hi).trans (h2.2 i hi)), fun i hi => cell_of a2 ((hct.adds i hi).trans (h3.2.1 i hi)), fun i hi => cell_of a2 ((hct.swaps i hi).trans (h4.2 i hi))⟩

set_option maxHeartbeats 1000000 in
theorem thai_any (m : Option Nat) (c1 c2 c3 c4 : Array Value) (wt : Nat → Int) (mv : Nat → Bool) (ad : Nat → Int) (sw : Nat → Bool) (ao : Option Addr) (N cap : Nat) (xs : List Int) (s : ByteArray) (lv : Int → Int) (lo : Int → Bool) (base : Nat) (w : World)
    (h1 : IsBytes c1 256 wt) (h2 : IsBools c2 256 mv) (h3 : IsBytes c3 256 ad) (h4 : IsBools c4 65536 sw)
    (hs : s.size ≤ 4096) (hN : N ≤ 1048576) (hxs : xs.length = N) (hown : w.ownsRow base 5 1 (.slice ao N cap) N (xs.map (Value.int .u8))) (hbase : base ≤ w.heap.size) (hlv : ∀ r, 0 ≤ lv r ∧ lv r ≤ 255)
    (hlk : ∀ wx, w.grownBy wx (Value.slice ao N cap).ownBlock → (∀ r, (Lit.int .i32 r).wf = true → (Instr.lookup 22 (.map m) (.int .i32 r) true).run Trym.prog wx = .ok (.tuple #[.int .u8 (lv r), .bool (lo r)]) wx) ∧
      (Instr.lookup 22 (.map m) (.int .i32 63) false).run Trym.prog wx = .ok (.int .u8 (lv 63)) wx) :
    Calls Trym.prog 6 #[.map m, .agg c1, .agg c2, .agg c3, .agg c4, .slice ao N cap, .string s] w fun e w' => ∃ v', e = .returned v' ∧
      w'.ownsRow base 5 1 v' (N + (runes s).length) ((xs ++ rewr (tb wt mv ad sw) (runes s).length ((runes s).map (setb lv lo)) 0 (runes s).length 0).map (Value.int .u8)) ∧ w.grownBy w' (Value.slice ao N cap).ownBlock ∧
      ∀ g, v'.ownBlock = some g → some g = (Value.slice ao N cap).ownBlock ∨ w.heap.size ≤ g := by
  have s1 := h1.1
  have s2 := h2.1
  have s3 := h3.1
  have s4 := h4.1
  have i1 : Hid ((Trym.prog.info? 23).map (·.size) = some c1.size) := by unfold Hid; rw [s1]; kernel_rfl
  have i2 : Hid ((Trym.prog.info? 24).map (·.size) = some c2.size) := by unfold Hid; rw [s2]; kernel_rfl
  have i3 : Hid ((Trym.prog.info? 23).map (·.size) = some c3.size) := by unfold Hid; rw [s3]; kernel_rfl
  have i4 : Hid ((Trym.prog.info? 25).map (·.size) = some c4.size) := by unfold Hid; rw [s4]; kernel_rfl
  have S1 := hide s1
  have S2 := hide s2
  have S3 := hide s3
  have S4 := hide s4
  have HO := hide hown
  have HX := hide hxs
  have HK := hide hlk
  have HV := hide hlv
  have H1 := hide h1
  have H2 := hide h2
  have H3 := hide h3
  have H4 := hide h4
  clear s1 s2 s3 s4 hown hxs hlk hlv h1 h2 h3 h4
  go_enter Trym.func6, Trym.ntmps6
  go_upto_region 1 with fail
  have hB := boxed w c1 c2 c3 c4
  generalize (((w.alloc (.cells c1 23)).alloc (.cells c2 24)).alloc (.cells c3 23)).alloc (.cells c4 25) = wB at hB ⊢
  have HB := hide hB
  have hsz := hB.size
  clear hB
  go_wp2_with (first
    | (refine wpList_load_row rfl 23 (.tmp 8) rfl w.heap.size rfl 23 c1 (0, 0) _ (heap_old _ HB.out.b1) Trym.underlying23 rfl i1.out ?_)
    | (refine wpList_load_row rfl 24 (.tmp 9) rfl (w.heap.size + 1) rfl 24 c2 (0, 0) _ (heap_old _ HB.out.b2) Trym.underlying24 rfl i2.out ?_)
    | (refine wpList_load_row rfl 23 (.tmp 10) rfl (w.heap.size + 1 + 1) rfl 23 c3 (0, 0) _ (heap_old _ HB.out.b3) Trym.underlying23 rfl i3.out ?_)
    | (refine wpList_load_row rfl 25 (.tmp 11) rfl (w.heap.size + 1 + 1 + 1) rfl 25 c4 (0, 0) _ (heap_old _ HB.out.b4) Trym.underlying25 rfl i4.out ?_)
    | (refine wpList_build44 rfl (.tmp 18) (.tmp 19) (.tmp 20) (.tmp 21) (.tmp 22) rfl _ c1 c2 c3 c4 rfl rfl rfl rfl rfl S1.out S2.out S3.out S4.out ?_; intro ct hct))
  have G : w.grownBy _ (Value.slice ao N cap).ownBlock := Lib.grownBy_allocR (Lib.grownBy_allocR (HB.out.grown (Value.slice ao N cap).ownBlock) (.cells #[.string ⟨#[]⟩, .string ⟨#[]⟩, .int .i32 0, .pointer none, .pointer none, .pointer none, .map m, .pointer none, .bool false, .pointer none] 42)) (.cells ct 44)
  have HG := hide G
  clear G
  refine (weigh_any (w.heap.size + 1 + 1 + 1 + 1 + 1) (w.heap.size + 1 + 1 + 1 + 1) ao N cap xs s m lv lo (tb wt mv ad sw) base _ hs hN HX.out (((HB.out.owns HO.out).alloc _).alloc _) (Nat.le_trans hbase HG.out.size) (tabAt_of HB.out hct H1.out H2.out H3.out H4.out rfl)
    (fun h => by have := owns_lt HO.out h; omega) (fun h => by have := owns_lt HO.out h; omega) HV.out H1.out.2.2 H3.out.2.2 (fun wx hg => HK.out wx (Lib.grownBy_trans HG.out hg))).mono ?_
  rintro e w' ⟨v', rfl, o1, g1, l1⟩
  have R := hide (And.intro o1 (And.intro (Lib.grownBy_trans HG.out g1) (fun (g : Nat) hg => (l1 g hg).imp id (fun h => Nat.le_trans HG.out.size h))))
  clear o1 g1 l1
  go_wp2
  go_ret
  exact ⟨v', rfl, R.out⟩
end Go.Proofs.Qxb6602158aMods
