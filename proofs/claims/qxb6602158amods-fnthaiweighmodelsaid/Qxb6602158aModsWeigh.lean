/-
  'weigh' (function 8): its walk.
-/
import Derived.Test.Qxb6602158aModsPlain
import Derived.Deep.DeepCutAuto
import Derived.Deep.CutBlock
import Derived.Deep.RegionLaw
import Derived.Deep.QuietTactic
import Derived.BigQuiet
import Derived.Deep.Light
namespace Go.Proofs.Qxb6602158aMods
open Go.ChangeShapes Go.WideShapes Go.ChangeAt Go.RowKit
set_option linter.unusedVariables false

theorem Trym.info5 : (Trym.prog.info? 5).map (fun i => (i.zero, i.size, i.bytes)) = some (some (.int .u8 0), 1, 1) := by kernel_rfl

/-- The receiver in memory. -/
structure TabAt (w : World) (bt bc : Nat) (m : Option Nat) (T : Tb) : Prop where
  head : w.cell? ⟨bt, 0, none⟩ = some (.pointer (some ⟨bc, 0, none⟩))
  map : w.cell? ⟨bc, 6, none⟩ = some (.map m)
  wt : ∀ i, i < 256 → w.cell? ⟨bt, 1 + i, none⟩ = some (.int .u8 (T.wt i))
  mv : ∀ i, i < 256 → w.cell? ⟨bt, 257 + i, none⟩ = some (.bool (T.mv i))
  ad : ∀ i, i < 256 → w.cell? ⟨bt, 513 + i, none⟩ = some (.int .u8 (T.ad i))
  sw : ∀ i, i < 65536 → w.cell? ⟨bt, 769 + i, none⟩ = some (.bool (T.sw i))

theorem TabAt.kept {w w' : World} {bt bc : Nat} {m : Option Nat} {T : Tb} {g : Option Nat} (h : TabAt w bt bc m T) (hg : w.grownBy w' g) (h1 : some bt ≠ g) (h2 : some bc ≠ g) : TabAt w' bt bc m T :=
  ⟨hg.cell h.head h1, hg.cell h.map h2, fun i hi => hg.cell (h.wt i hi) h1, fun i hi => hg.cell (h.mv i hi) h1, fun i hi => hg.cell (h.ad i hi) h1, fun i hi => hg.cell (h.sw i hi) h1⟩

theorem owns_shape {w : World} {base n : Nat} {v : Value} {xs : List Value} (h : w.ownsRow base 5 1 v n xs) : ∃ ao cap, v = .slice ao n cap := by
  obtain ⟨_, ⟨rfl, rfl⟩ | ⟨g, cap, _, rfl, _⟩⟩ := h
  · exact ⟨none, 0, rfl⟩
  · exact ⟨_, cap, rfl⟩

theorem owns_kind {w : World} {base n : Nat} {v : Value} {xs : List Value} (h : w.ownsRow base 5 1 v n xs) {g : Nat} (hg : v.ownBlock = some g) : ∃ cur, w.heap[g]? = some (.cells cur 5 (0, 0)) := by
  obtain ⟨_, ⟨rfl, rfl⟩ | ⟨g', cap, cur, rfl, _, hc, _⟩⟩ := h
  · cases hg
  · cases hg; exact ⟨cur, hc⟩

theorem owns_iter {w : World} {base n k pos : Nat} {s : ByteArray} {v : Value} {xs : List Value} (h : w.ownsRow base 5 1 v n xs) (hk : w.heap[k]? = some (.stringIter s pos)) (p : Nat) : (w.iterAt k s p).ownsRow base 5 1 v n xs := by
  obtain ⟨h1, ⟨rfl, rfl⟩ | ⟨g', cap, cur, rfl, hb, hc, rest⟩⟩ := h
  · exact ⟨h1, .inl ⟨rfl, rfl⟩⟩
  · refine ⟨h1, .inr ⟨g', cap, cur, rfl, hb, ?_, rest⟩⟩
    rw [Lib.iterAt_other w k g' s p (fun e => by rw [e, hk] at hc; cases hc)]
    exact hc

theorem grown_iter {w wr : World} {g : Option Nat} {k : Nat} (h : w.grownBy wr g) (hk : w.heap.size ≤ k) (s : ByteArray) (p : Nat) : w.grownBy (wr.iterAt k s p) g :=
  ⟨h.os, h.tape, h.output, by rw [Lib.iterAt_size]; exact h.size, fun j hj hne => by rw [Lib.iterAt_other wr k j s p (by omega)]; exact h.block j hj hne⟩

/-- A later growth at a row that is g0's or new. -/
theorem grown_on {w w1 w2 : World} {g0 g1 : Option Nat} (h : w.grownBy w1 g0) (k : w1.grownBy w2 g1) (hl : ∀ g, g1 = some g → some g = g0 ∨ w.heap.size ≤ g) : w.grownBy w2 g0 :=
  ⟨k.os.trans h.os, k.tape.trans h.tape, k.output.trans h.output, Nat.le_trans h.size k.size, fun j hj hne => by
    rw [k.block j (Nat.lt_of_lt_of_le hj h.size) (fun e => by
      rcases hl j e.symm with h1 | h1
      · exact hne h1
      · omega)]
    exact h.block j hj hne⟩

/-- What the first loop's relation says. -/
def Coll (w : World) (base N : Nat) (xs : List Int) (g0 : Option Nat) (s : ByteArray) (lv : Int → Int) (lo : Int → Bool) (wr : World) (v : Value) (pos : Nat) (pre : List Int) : Prop :=
  Ranged s pos pre ∧ wr.heap[w.heap.size]? = some (.stringIter s pos) ∧ wr.ownsRow base 5 1 v (N + pre.length) ((xs ++ pre.map (setb lv lo)).map (Value.int .u8)) ∧ w.grownBy wr g0 ∧
    ∀ g, v.ownBlock = some g → some g = g0 ∨ w.heap.size ≤ g

theorem coll_start {w : World} {base N : Nat} {xs : List Int} {v : Value} {s : ByteArray} {lv : Int → Int} {lo : Int → Bool} (h : w.ownsRow base 5 1 v N (xs.map (Value.int .u8))) :
    Coll w base N xs v.ownBlock s lv lo (w.iter s 0) v 0 [] :=
  ⟨ranged_start s, World.iter_heap w s 0, by simpa using (show (w.iter s 0).ownsRow base 5 1 v N (xs.map (Value.int .u8)) from h.alloc _), World.grownBy_alloc _ _ _, fun g hg => .inl hg.symm⟩

theorem coll_step {w wr w1 : World} {base N : Nat} {xs : List Int} {g0 : Option Nat} {s : ByteArray} {lv : Int → Int} {lo : Int → Bool} {v v' : Value} {pos : Nat} {pre : List Int} {o : Obj} (h : Coll w base N xs g0 s lv lo wr v pos pre) (hl : pos < s.size)
    (x : Int) (hx : x = setb lv lo ((Utf8.decode s pos).1 : Int))
    (hown : w1.ownsRow base 5 1 v' (N + pre.length + 1) ((xs ++ pre.map (setb lv lo)).map (Value.int .u8) ++ [.int .u8 x]))
    (hg : ((wr.iterAt w.heap.size s (pos + (Utf8.decode s pos).2)).alloc o).grownBy w1 v.ownBlock)
    (hloc : v'.ownBlock = v.ownBlock ∨ v'.ownBlock = some ((wr.iterAt w.heap.size s (pos + (Utf8.decode s pos).2)).alloc o).heap.size) :
    Coll w base N xs g0 s lv lo w1 v' (pos + (Utf8.decode s pos).2) (pre ++ [((Utf8.decode s pos).1 : Int)]) := by
  obtain ⟨h1, h2, h3, h4, h5⟩ := h
  have hsz := h4.size
  have hlt : w.heap.size < wr.heap.size := (Array.getElem?_eq_some_iff.1 h2).1
  have g1 : w.grownBy ((wr.iterAt w.heap.size s (pos + (Utf8.decode s pos).2)).alloc o) g0 := (grown_iter h4 (Nat.le_refl _) s _).trans (World.grownBy_alloc _ _ _)
  refine ⟨ranged_step h1 hl, ?_, ?_, grown_on g1 hg h5, ?_⟩
  · rw [hg.block w.heap.size (by simp [Lib.iterAt_size]; omega) (fun e => by
      obtain ⟨cur, hc⟩ := owns_kind h3 e.symm
      rw [h2] at hc; cases hc)]
    rw [Go.heap_alloc_old _ _ (by rw [Lib.iterAt_size]; exact hlt)]
    exact Lib.iterAt_heap wr _ s pos _ h2
  · rw [hx] at hown
    simpa [Nat.add_assoc] using hown
  · intro g hg'
    rcases hloc with e | e
    · rw [e] at hg'; exact h5 g hg'
    · rw [e] at hg'
      cases hg'
      right
      simp [Lib.iterAt_size]
      omega

theorem grown_set {w wr : World} {g0 : Option Nat} {g : Nat} (h : w.grownBy wr g0) (hl : some g = g0 ∨ w.heap.size ≤ g) (j : Nat) (v : Value) : w.grownBy (wr.setCell ⟨g, j, none⟩ v) g0 := by
  refine grown_on h (g1 := some g) ⟨rfl, rfl, rfl, by simp, fun k _ hk => ?_⟩ (fun g' e => by cases e; exact hl)
  exact Below.heap_setCell wr ⟨g, j, none⟩ v k (fun e => hk (by rw [e]))

/-- What the second loop's relation says. -/
structure Rew (w wr : World) (g cap1 N k : Nat) (xs R : List Int) (g0 : Option Nat) (T : Tb) (l : List Int) (i e n : Nat) (a : Int) : Prop where
  len : l.length = k
  ie : i ≤ e
  ek : e ≤ k
  ab : 0 ≤ a ∧ a ≤ 255
  row : RowAt wr g cap1 (xs ++ l)
  u8 : ∀ y ∈ l, 0 ≤ y ∧ y ≤ 255
  fuel : e - i ≤ n
  eq : rewr T n l i e a = R
  grown : w.grownBy wr g0

theorem getD_mem {xs : List Int} {j : Nat} (h : j < xs.length) : xs.getD j 0 ∈ xs := by
  rw [show xs.getD j 0 = xs[j] by simp [h]]
  exact List.getElem_mem h

section
variable {w wr : World} {g cap1 N k : Nat} {xs R : List Int} {g0 : Option Nat} {T : Tb} {l : List Int} {i e n : Nat} {a : Int}

theorem Rew.cell (h : Rew w wr g cap1 N k xs R g0 T l i e n a) (hx : xs.length = N) {j : Nat} (hj : j < k) : wr.cell? ⟨g, N + j, none⟩ = some (.int .u8 (l.getD j 0)) := by
  have := h.row.cell (j := N + j) (by rw [List.length_append, hx, h.len]; omega)
  rw [this, ← hx]
  simp [List.getElem?_append_right]

theorem Rew.byte (h : Rew w wr g cap1 N k xs R g0 T l i e n a) {j : Nat} (hj : j < k) : ∃ b : Nat, b < 256 ∧ l.getD j 0 = (b : Int) := by
  have := h.u8 _ (getD_mem (show j < l.length by rw [h.len]; exact hj))
  exact ⟨(l.getD j 0).toNat, by omega, by omega⟩

theorem set_app {xs l : List Int} {N : Nat} (hx : xs.length = N) (j : Nat) (x : Int) : (xs ++ l).set (N + j) x = xs ++ l.set j x := by
  rw [← hx, List.set_append_right _ _ (by omega)]
  simp

theorem shift_app {xs l : List Int} {N : Nat} (hx : xs.length = N) (i e : Nat) (h : i < e) (he : e ≤ l.length) : shiftL (xs ++ l) (N + i) (N + e) = xs ++ shiftL l i e := by
  unfold shiftL
  rw [← hx, show xs.length + e - (xs.length + i + 1) = e - (i + 1) by omega, show xs.length + e - 1 = xs.length + (e - 1) by omega, Nat.add_assoc]
  simp [List.take_append, List.drop_append]
  rw [List.take_of_length_le (show xs.length ≤ xs.length + i by omega), List.drop_eq_nil_of_le (show xs.length ≤ xs.length + (i + 1) by omega), List.drop_eq_nil_of_le (show xs.length ≤ xs.length + (e - 1) by omega)]
  simp

theorem mem_set_bd {l : List Int} {j : Nat} {x : Int} (h : ∀ y ∈ l, 0 ≤ y ∧ y ≤ 255) (hx : 0 ≤ x ∧ x ≤ 255) : ∀ y ∈ l.set j x, 0 ≤ y ∧ y ≤ 255 := by
  intro y hy
  rcases List.mem_or_eq_of_mem_set hy with h1 | h1
  · exact h y h1
  · rw [h1]; exact hx

theorem mem_shift {l : List Int} {i e : Nat} {y : Int} (h : y ∈ shiftL l i e) : y ∈ l := by
  unfold shiftL at h
  rcases List.mem_append.1 h with h | h
  · exact List.mem_of_mem_take h
  · rcases List.mem_append.1 h with h | h
    · exact List.mem_of_mem_drop (List.mem_of_mem_take h)
    · exact List.mem_of_mem_drop h

theorem Rew.drewN (h : Rew w wr g cap1 N k xs R g0 T l i e n a) (q : Nat) : Rew w (wr.drewN q) g cap1 N k xs R g0 T l i e n a :=
  ⟨h.len, h.ie, h.ek, h.ab, h.row.of_block rfl, h.u8, h.fuel, h.eq, ⟨h.grown.os, h.grown.tape, h.grown.output, h.grown.size, h.grown.block⟩⟩

theorem rew_keep (h : Rew w wr g cap1 N k xs R g0 T l i e n a) (hx : xs.length = N) (hl : some g = g0 ∨ w.heap.size ≤ g) (hie : i < e) {b : Nat} (hb : l.getD i 0 = (b : Int)) (hm : T.mv b = false) (hs : ¬ (i + 1 < e ∧ T.sw (b * 256 + (l.getD (i + 1) 0).toNat) = true)) (hw : 0 ≤ T.wt b ∧ T.wt b ≤ 255) :
    ∃ n', Rew w (wr.setCell ⟨g, N + i, none⟩ (.int .u8 (T.wt b))) g cap1 N k xs R g0 T (l.set i (T.wt b)) (i + 1) e n' ((a + T.ad b) % 256) := by
  obtain ⟨n', rfl⟩ : ∃ n', n = n' + 1 := ⟨n - 1, by have := h.fuel; omega⟩
  have he := h.eq
  rw [rewr, if_pos hie, hb, Int.toNat_natCast, if_neg (by rw [hm]; decide), if_neg hs] at he
  have hlen := h.len
  have hek := h.ek
  refine ⟨n', by rw [List.length_set, hlen], hie, hek, wrap8_bd _, ?_, mem_set_bd h.u8 hw, by have := h.fuel; omega, he, grown_set h.grown hl _ _⟩
  rw [← set_app hx]
  exact h.row.set (by rw [List.length_append, hx, hlen]; omega) _

theorem rew_swap (h : Rew w wr g cap1 N k xs R g0 T l i e n a) (hx : xs.length = N) (hl : some g = g0 ∨ w.heap.size ≤ g) (hie : i + 1 < e) {b y : Nat} (hb : l.getD i 0 = (b : Int)) (hy : l.getD (i + 1) 0 = (y : Int)) (hbb : b < 256) (hyb : y < 256) (hm : T.mv b = false) (hs : T.sw (b * 256 + y) = true) :
    ∃ n', Rew w ((wr.setCell ⟨g, N + i, none⟩ (.int .u8 (y : Int))).setCell ⟨g, N + (i + 1), none⟩ (.int .u8 (b : Int))) g cap1 N k xs R g0 T ((l.set i (y : Int)).set (i + 1) (b : Int)) (i + 2) e n' ((a + T.ad b) % 256) := by
  obtain ⟨n', rfl⟩ : ∃ n', n = n' + 1 := ⟨n - 1, by have := h.fuel; omega⟩
  have he := h.eq
  rw [rewr, if_pos (show i < e by omega), hb, hy, Int.toNat_natCast, Int.toNat_natCast, if_neg (by rw [hm]; decide), if_pos ⟨hie, hs⟩] at he
  have hlen := h.len
  have hek := h.ek
  refine ⟨n', by rw [List.length_set, List.length_set, hlen], hie, hek, wrap8_bd _, ?_, mem_set_bd (mem_set_bd h.u8 (by omega)) (by omega), by have := h.fuel; omega, he, grown_set (grown_set h.grown hl _ _) hl _ _⟩
  rw [← set_app hx, ← set_app hx]
  exact (h.row.set (by rw [List.length_append, hx, hlen]; omega) _).set (by rw [List.length_set, List.length_append, hx, hlen]; omega) _

theorem rew_move {w' : World} (h : Rew w wr g cap1 N k xs R g0 T l i e n a) (hx : xs.length = N) (hl : some g = g0 ∨ w.heap.size ≤ g) (hie : i < e) {b : Nat} (hb : l.getD i 0 = (b : Int)) (hm : T.mv b = true)
    (hr : RowAt w' g cap1 (shiftL (xs ++ l) (N + i) (N + e))) (hg : wr.grownBy w' (some g)) :
    ∃ n', Rew w (w'.setCell ⟨g, N + (k - 1), none⟩ (.int .u8 ((T.wt b + (a + T.ad b) % 256) % 256))) g cap1 N k xs R g0 T ((shiftL l i e).set (k - 1) ((T.wt b + (a + T.ad b) % 256) % 256)) i (e - 1) n' ((a + T.ad b) % 256) := by
  obtain ⟨n', rfl⟩ : ∃ n', n = n' + 1 := ⟨n - 1, by have := h.fuel; omega⟩
  have he := h.eq
  have hlen := h.len
  have hek := h.ek
  rw [rewr, if_pos hie, hb, Int.toNat_natCast, if_pos hm, hlen] at he
  have hsl := shift_len l i e hie (by omega)
  rw [shift_app hx i e hie (by omega)] at hr
  refine ⟨n', by rw [List.length_set, hsl, hlen], by omega, by omega, wrap8_bd _, ?_, mem_set_bd (fun y hy => h.u8 y (mem_shift hy)) (wrap8_bd _), by have := h.fuel; omega, he, grown_set (grown_on h.grown hg (fun g' e' => by cases e'; exact hl)) hl _ _⟩
  rw [← set_app hx]
  exact hr.set (by rw [List.length_append, hx, hsl, hlen]; omega) _
end

set_option maxHeartbeats 600000 in
set_option maxRecDepth 100000 in
theorem weigh_any (bt bc : Nat) (ao : Option Addr) (N cap : Nat) (xs : List Int) (s : ByteArray) (m : Option Nat) (lv : Int → Int) (lo : Int → Bool) (T : Tb) (base : Nat) (w : World)
    (hs : s.size ≤ 4096) (hN : N ≤ 1048576) (hxs : xs.length = N) (hown : w.ownsRow base 5 1 (.slice ao N cap) N (xs.map (Value.int .u8))) (hbase : base ≤ w.heap.size) (htab : TabAt w bt bc m T)
    (hbt : some bt ≠ (Value.slice ao N cap).ownBlock) (hbc : some bc ≠ (Value.slice ao N cap).ownBlock) (hlv : ∀ r, 0 ≤ lv r ∧ lv r ≤ 255) (hT1 : ∀ i, 0 ≤ T.wt i ∧ T.wt i ≤ 255) (hT2 : ∀ i, 0 ≤ T.ad i ∧ T.ad i ≤ 255)
    (hlk : ∀ wx, w.grownBy wx (Value.slice ao N cap).ownBlock → (∀ r, (Lit.int .i32 r).wf = true → (Instr.lookup 22 (.map m) (.int .i32 r) true).run Trym.prog wx = .ok (.tuple #[.int .u8 (lv r), .bool (lo r)]) wx) ∧
      (Instr.lookup 22 (.map m) (.int .i32 63) false).run Trym.prog wx = .ok (.int .u8 (lv 63)) wx) :
    Calls Trym.prog 8 #[.pointer (some ⟨bt, 0, none⟩), .slice ao N cap, .string s] w fun e w' => ∃ v', e = .returned v' ∧
      w'.ownsRow base 5 1 v' (N + (runes s).length) ((xs ++ rewr T (runes s).length ((runes s).map (setb lv lo)) 0 (runes s).length 0).map (Value.int .u8)) ∧ w.grownBy w' (Value.slice ao N cap).ownBlock ∧
      ∀ g, v'.ownBlock = some g → some g = (Value.slice ao N cap).ownBlock ∨ w.heap.size ≤ g := by
  obtain ⟨i0, hi, hz0, hz1, hz2⟩ := info_parts Trym.info5
  have HO := hide hown
  have HX := hide hxs
  have HT := hide htab
  have HK := hide hlk
  have HV := hide hlv
  have HT1 := hide hT1
  have HT2 := hide hT2
  have HBT := hide hbt
  have HBC := hide hbc
  clear hown hxs htab hlk hlv hbt hbc hT1 hT2
  go_enter Trym.func8, Trym.ntmps8
  go_wp2
  go_loopw [1] (fun v wr => ∃ pos pre, Coll w base N xs (Value.slice ao N cap).ownBlock s lv lo wr v pos pre) (fun _ wr => s.size - wr.iterPos w.heap.size)
  case atStart => exact ⟨0, [], coll_start HO.out⟩
  case round =>
    obtain ⟨pos, pre, hC⟩ := hrel
    obtain ⟨h1, h2, h3, h4, h5⟩ := hC
    by_cases hl : pos < s.size
    · obtain ⟨wI, HI⟩ : ∃ x, Hid (x = wr.iterAt w.heap.size s (pos + (Utf8.decode s pos).2)) := ⟨_, rfl⟩
      obtain ⟨r, HR⟩ : ∃ x, Hid (x = ((Utf8.decode s pos).1 : Int)) := ⟨_, rfl⟩
      have hnx : ∀ ty, (Instr.next (.pointer (some ⟨w.heap.size, 0, none⟩)) true ty).run Trym.prog wr = .ok (.tuple #[.bool true, .int .i64 pos, .int .i32 r]) wI := fun ty => by rw [HI.out, HR.out]; exact Lib.run_next_any_at (P := Trym.prog) wr w.heap.size s pos ty h2 hl
      have gI : w.grownBy wI (Value.slice ao N cap).ownBlock := by rw [HI.out]; exact grown_iter h4 (Nat.le_refl _) s _
      have tI := HT.out.kept gI HBT.out HBC.out
      have cH := tI.head
      have cM := tI.map
      have hlk := HK.out wI gI
      have hk1 := hlk.1 r (by rw [HR.out]; exact rune_wf s pos)
      have hk2 := hlk.2
      have hOI : wI.ownsRow base 5 1 u1 (N + pre.length) ((xs ++ pre.map (setb lv lo)).map (Value.int .u8)) := by rw [HI.out]; exact owns_iter h3 h2 _
      have hpl := ranged_len h1
      have HCC : Hid (Coll w base N xs (Value.slice ao N cap).ownBlock s lv lo wr u1 pos pre) := ⟨h1, h2, h3, h4, h5⟩
      have hOIb : base ≤ wI.heap.size := Nat.le_trans hbase gI.size
      clear h1 h2 h3 h4 h5 gI tI hlk
      cases hlo : lo r
      · go_wp2_with (first
          | (at_builtin; refine wpList_append_own_at _ rfl (.tmp 46) (.tmp 48) 26 rfl base 5 i0 (.int .u8 0) 1 1 Trym.underlying26 hi hz0 hz1 hz2 rfl (by decide) u1 (N + pre.length) _ rfl (hOI.alloc _) ⟨wI.heap.size, 0, none⟩ 1 1 [.int .u8 (lv 63)] rfl rfl (cell_one_new _ _ _) (ints_oneCell .u8 [lv 63]) (by unfold maxLen; omega) (by omega) (by simp; omega) ?_; intro v' w1 hown1 hgrow1 hnil1 hloc1))
        have hC := coll_step HCC.out hl (lv 63) (by rw [← HR.out]; simp [setb, hlo]) hown1 (HI.out ▸ hgrow1) (HI.out ▸ hloc1)
        have hp1 := iterPos_of hC.2.1
        have hp0 := iterPos_of HCC.out.2.1
        have hd := decode_pos s pos hl
        go_roundw
        case rel => exact ⟨_, _, hC⟩
        case measure => rw [hp1, hp0]; omega
      · go_wp2_with (first
          | (at_builtin; refine wpList_append_own_at _ rfl (.tmp 46) (.tmp 48) 26 rfl base 5 i0 (.int .u8 0) 1 1 Trym.underlying26 hi hz0 hz1 hz2 rfl (by decide) u1 (N + pre.length) _ rfl (hOI.alloc _) ⟨wI.heap.size, 0, none⟩ 1 1 [.int .u8 (lv r)] rfl rfl (cell_one_new _ _ _) (ints_oneCell .u8 [lv r]) (by unfold maxLen; omega) (by omega) (by simp; omega) ?_; intro v' w1 hown1 hgrow1 hnil1 hloc1))
        have hC := coll_step HCC.out hl (lv r) (by rw [← HR.out]; simp [setb, hlo]) hown1 (HI.out ▸ hgrow1) (HI.out ▸ hloc1)
        have hp1 := iterPos_of hC.2.1
        have hp0 := iterPos_of HCC.out.2.1
        have hd := decode_pos s pos hl
        go_roundw
        case rel => exact ⟨_, _, hC⟩
        case measure => rw [hp1, hp0]; omega
    · have hnx := fun ty => Lib.run_next_end_at (P := Trym.prog) wr w.heap.size s pos ty h2 hl
      obtain rfl := ranged_end h1 hl
      have hkl := runes_len s
      obtain ⟨k, HKk⟩ : ∃ k, Hid ((runes s).length = k) := ⟨_, rfl⟩
      rw [HKk.out] at h3 hkl
      obtain ⟨ao1, cap1, rfl⟩ := owns_shape h3
      by_cases hk0 : k = 0
      · subst hk0
        have hr0 : runes s = [] := List.eq_nil_of_length_eq_zero HKk.out
        rw [hr0] at h3
        have HO3 := hide h3
        have HG3 := hide h4
        have HL3 := hide h5
        have HR0 := hide hr0
        clear h1 h3 h4 h5 hr0
        by_cases hcn : cap1 = N
        all_goals
          go_wp2
          go_loopw [13, 15] (fun v13 v15 wx => v13 = .int .i64 0 ∧ v15 = .int .i64 0 ∧ wx = wr) (fun _ _ _ => 0)
          case atStart => exact ⟨rfl, rfl, rfl⟩
          case round =>
            obtain ⟨rfl, rfl, rfl⟩ := hrel
            go_wp2
            go_ret
            rw [HR0.out]
            exact ⟨_, rfl, by simpa [rewr] using HO3.out, HG3.out, HL3.out⟩
      have hkp : 0 < k := by omega
      obtain ⟨g, rfl⟩ : ∃ g, ao1 = some ⟨g, 0, none⟩ := by
        obtain ⟨_, ⟨_, h0⟩ | ⟨g, _, _, e, _⟩⟩ := h3
        · omega
        · cases e; exact ⟨g, rfl⟩
      have hlen1 : ((xs ++ (runes s).map (setb lv lo))).length = N + k := by rw [List.length_append, List.length_map, HX.out, HKk.out]
      obtain ⟨hrow, hbg⟩ := rowAt_of hlen1 h3
      have hcap := hrow.le
      rw [hlen1] at hcap
      obtain ⟨c2, rfl⟩ : ∃ c2, cap1 = N + c2 := ⟨cap1 - N, by omega⟩
      have hcapN : ¬ N + c2 = N := by omega
      have hcm : N + c2 ≤ 9223372036854775807 := by have := hcap.2; unfold maxLen at this; exact this
      have HR := hide hrow
      have HG := hide h4
      have HL := hide (h5 g rfl)
      have HBG := hide hbg
      clear hbg
      have hcap1 : k ≤ c2 := by omega
      have HU : Hid (∀ y ∈ (runes s).map (setb lv lo), 0 ≤ y ∧ y ≤ 255) := fun y hy => by
        obtain ⟨r, _, rfl⟩ := List.mem_map.1 hy
        unfold setb
        split
        · exact HV.out _
        · exact HV.out _
      obtain ⟨c, HCc⟩ : ∃ c, Hid ((runes s).map (setb lv lo) = c) := ⟨_, rfl⟩
      have hclen : Hid (c.length = k) := by unfold Hid; rw [← HCc.out, List.length_map, HKk.out]
      rw [HCc.out] at hrow
      have HR0 : Hid (Rew w wr g (N + c2) N k xs (rewr T k c 0 k 0) (Value.slice ao N cap).ownBlock T c 0 k k 0) := ⟨hclen.out, Nat.zero_le _, Nat.le_refl _, by omega, hrow, HCc.out ▸ HU.out, by omega, rfl, h4⟩
      clear hrow h3 h4 h5 h1 hcap hlen1
      go_wp2
      go_loopw [13, 14, 15] (fun v13 v14 v15 wx => ∃ (l : List Int) (i e n : Nat) (a : Int), v13 = .int .i64 e ∧ v14 = .int .u8 a ∧ v15 = .int .i64 i ∧ Rew w wx g (N + c2) N k xs (rewr T k c 0 k 0) (Value.slice ao N cap).ownBlock T l i e n a)
        (fun v13 _ v15 _ => (intOf v13).toNat - (intOf v15).toNat)
      case atStart => exact ⟨c, 0, k, k, 0, rfl, rfl, rfl, HR0.out⟩
      case round =>
        obtain ⟨l, i, e, n, a, rfl, rfl, rfl, hW⟩ := hrel
        have hie := hW.ie
        have hek := hW.ek
        have hab := hW.ab
        by_cases hlt : i < e
        · have d0 : decide ((i : Int) < (e : Int)) = true := by simp; omega
          obtain ⟨b, hb, hbe⟩ := hW.byte (show i < k by omega)
          have c0 : wr.cell? ⟨g, N + i, none⟩ = some (.int .u8 (b : Int)) := by rw [← hbe]; exact hW.cell HX.out (by omega)
          have tW := HT.out.kept hW.grown HBT.out HBC.out
          have cad := tW.ad b hb
          have cmv := tW.mv b hb
          have had := HT2.out b
          have HWW := hide hW
          have HTW := hide tW
          have HBE := hide hbe
          clear hW tW hbe
          cases hmv : T.mv b
          · rw [hmv] at cmv
            go_upto_region 17 with fail
            generalize hA : (a + T.ad b) % 256 = a2
            have HA2 := hide hA
            have hab2 : 0 ≤ a2 ∧ a2 ≤ 255 := by omega
            clear hA
            by_cases hi1 : i + 1 < e
            · have dg : (i : Int) + 1 < (e : Int) := by omega
              have dk : (i : Int) + 1 < (k : Int) := by omega
              have hbz : (b : Int) < 256 := by omega
              obtain ⟨y, hy, hye⟩ := HWW.out.byte (show i + 1 < k by omega)
              have c1 : wr.cell? ⟨g, N + (i + 1), none⟩ = some (.int .u8 (y : Int)) := by rw [← hye]; exact HWW.out.cell HX.out (by omega)
              have csw := HTW.out.sw (b * 256 + y) (by omega)
              rw [← Nat.add_assoc] at csw
              have hyz : (y : Int) < 256 := by omega
              have cwt := HTW.out.wt b hb
              have hfz := HWW.out.row.frozen (N + i)
              have hfz2 := HWW.out.row.frozen (N + (i + 1))
              have HYE := hide hye
              clear hye
              cases hsw : T.sw (b * 256 + y)
              · rw [hsw] at csw
                go_wp2_with fail
                go_quiet (fail)
                obtain ⟨n', hN'⟩ := rew_keep (HWW.out.drewN nq) HX.out HL.out hlt HBE.out hmv (by rw [HYE.out, Int.toNat_natCast, hsw]; simp) (HT1.out b)
                rw [HA2.out] at hN'
                have HN' := hide hN'
                clear hN'
                go_wp2
                go_roundw
                case rel => exact ⟨_, i + 1, e, n', a2, rfl, rfl, by go_num, HN'.out⟩
                case measure => simp [intOf]; omega
              · rw [hsw] at csw
                go_wp2_with fail
                go_quiet (fail)
                obtain ⟨n', hN'⟩ := rew_swap (HWW.out.drewN nq) HX.out HL.out hi1 HBE.out HYE.out hb hy hmv hsw
                rw [HA2.out] at hN'
                have HN' := hide hN'
                clear hN'
                go_wp2
                go_roundw
                case rel => exact ⟨_, i + 2, e, n', a2, rfl, rfl, by go_num, HN'.out⟩
                case measure => simp [intOf]; omega
            · have dg : decide ((i : Int) + 1 < (e : Int)) = false := by simp; omega
              have cwt := HTW.out.wt b hb
              have hfz := HWW.out.row.frozen (N + i)
              go_wp2_with fail
              go_quiet (fail)
              obtain ⟨n', hN'⟩ := rew_keep (HWW.out.drewN nq) HX.out HL.out hlt HBE.out hmv (fun h => hi1 h.1) (HT1.out b)
              rw [HA2.out] at hN'
              have HN' := hide hN'
              clear hN'
              go_wp2
              go_roundw
              case rel => exact ⟨_, i + 1, e, n', a2, rfl, rfl, by go_num, HN'.out⟩
              case measure => simp [intOf]; omega
          · rw [hmv] at cmv
            go_upto_region 17 with fail
            generalize hA : (a + T.ad b) % 256 = a2
            have HA2 := hide hA
            have hab2 : 0 ≤ a2 ∧ a2 ≤ 255 := by omega
            clear hA
            have z1 : (i : Int) ≤ (k : Int) := by omega
            have z2 : (i : Int) + 1 ≤ (e : Int) := by omega
            have z3 : (e : Int) ≤ (c2 : Int) := by omega
            have z4 : ¬ c2 = i := by omega
            have z5 : IntKind.i64.wrap ((i : Int) + 1) = (i : Int) + 1 := by simp [IntKind.wrap, IntKind.bits, IntKind.signed]; omega
            have z6 : ((i : Int) + 1).toNat = i + 1 := by omega
            have z7 : 0 ≤ (i : Int) + 1 := by omega
            have cwt := HTW.out.wt b hb
            have HRd : Hid (RowAt wr.drew g (N + c2) (xs ++ l)) := HWW.out.row.of_block rfl
            have HE1 : Hid (N + i < N + e) := by unfold Hid; omega
            have HE2 : Hid (N + e ≤ (xs ++ l).length) := by unfold Hid; rw [List.length_append, HX.out, HWW.out.len]; omega
            have HE3 : Hid (e - (i + 1) = N + e - (N + i + 1)) := by unfold Hid; omega
            have HE4 : Hid (N + e - (N + i) ≤ k - i) := by unfold Hid; omega
            have HE5 : Hid (c2 = i + 1 → e = i + 1) := fun h => by omega
            have HE6 : Hid (N + i + 1 < N + e → (if c2 = i + 1 then some (⟨g, N, none⟩ : Addr) else some ⟨g, N + (i + 1), none⟩) = some ⟨g, N + i + 1, none⟩) := fun h => by rw [if_neg (by omega)]; rfl
            have HGB : Hid (some bt ≠ some g) := fun h => by
              rcases HL.out with h1 | h1
              · exact HBT.out (h.trans h1)
              · have h2 := World.block_lt_of_cell? _ _ HT.out.head
                have h3 := Option.some.inj h
                simp at h2
                omega
            have HGC : Hid (some bc ≠ some g) := fun h => by
              rcases HL.out with h1 | h1
              · exact HBC.out (h.trans h1)
              · have h2 := World.block_lt_of_cell? _ _ HT.out.map
                have h3 := Option.some.inj h
                simp at h2
                omega
            go_wp2_with fail
            go_region_law (refine step_copy_down rfl (.tmp 90) (.tmp 95) rfl g (N + c2) (xs ++ l) HRd.out (N + i) (N + e) HE1.out HE2.out (some ⟨g, N + i, none⟩) (if c2 = i + 1 then some ⟨g, N, none⟩ else some ⟨g, N + (i + 1), none⟩) (k - i) (c2 - i) (e - (i + 1)) (c2 - (i + 1)) HE3.out (by simp [Act.eval, Act.put]) (by simp [Act.eval, Act.put]) HE4.out (fun _ => rfl) HE6.out ?_; intro w2 hrow2 hgrow2)
            obtain ⟨n', hN'⟩ := rew_move (HWW.out.drewN 0) HX.out HL.out hlt HBE.out hmv hrow2 ⟨hgrow2.os, hgrow2.tape, hgrow2.output, hgrow2.size, hgrow2.block⟩
            rw [HA2.out] at hN'
            have HN' := hide hN'
            clear hN'
            have t2 := HTW.out.kept (w' := w2) (g := some g) ⟨hgrow2.os, hgrow2.tape, hgrow2.output, hgrow2.size, hgrow2.block⟩ HGB.out HGC.out
            have cwt := t2.wt b hb
            have hfz := hrow2.frozen (N + (k - 1))
            have hlst := hrow2.cell (j := N + (k - 1)) (by rw [shift_len _ _ _ HE1.out HE2.out, List.length_append, HX.out, HWW.out.len]; omega)
            clear t2 hrow2 hgrow2 z5 z6
            go_wp2
            go_roundw
            case rel => exact ⟨_, i, e - 1, n', a2, by go_num, rfl, rfl, HN'.out⟩
            case measure => simp [intOf]; omega
        · have d0 : decide ((i : Int) < (e : Int)) = false := by simp; omega
          have hEq := hW.eq
          rw [rewr_end T n l i e a hlt] at hEq
          subst hEq
          have HWW := hide hW
          clear hW
          go_wp2
          go_ret
          rw [HKk.out, HCc.out]
          exact ⟨_, rfl, owns_of (by rw [List.length_append, HX.out, HWW.out.len]) HWW.out.row HBG.out, HWW.out.grown, fun g' h => by cases h; exact HL.out⟩
end Go.Proofs.Qxb6602158aMods
