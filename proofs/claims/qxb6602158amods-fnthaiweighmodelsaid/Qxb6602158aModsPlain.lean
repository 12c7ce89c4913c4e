/-
  What 'weigh' computes, plainly; and the laws on the row that it rewrites in place.
-/
import Derived.Test.Qxb6602158aModsBuild
import Derived.Laws.CopyOwn
import Derived.Lib.OthersKept
import Derived.WalkSmall
namespace Go.Proofs.Qxb6602158aMods
open Go.ChangeShapes Go.WideShapes Go.ChangeAt Go.RowKit
set_option linter.unusedVariables false

/-- The four tables. -/
structure Tb where
  wt : Nat → Int
  mv : Nat → Bool
  ad : Nat → Int
  sw : Nat → Bool

/-- Places i+1 .. e-1 move one place down; place e-1 stays besides. -/
def shiftL (l : List Int) (i e : Nat) : List Int := l.take i ++ ((l.drop (i + 1)).take (e - (i + 1)) ++ l.drop (e - 1))

/-- The rewriting in place: fuel, the row, the place, the end, what was added. -/
def rewr (T : Tb) : Nat → List Int → Nat → Nat → Int → List Int
  | 0, l, _, _, _ => l
  | n + 1, l, i, e, a =>
    if i < e then
      if T.mv (l.getD i 0).toNat then
        rewr T n ((shiftL l i e).set (l.length - 1) ((T.wt (l.getD i 0).toNat + (a + T.ad (l.getD i 0).toNat) % 256) % 256)) i (e - 1) ((a + T.ad (l.getD i 0).toNat) % 256)
      else if i + 1 < e ∧ T.sw ((l.getD i 0).toNat * 256 + (l.getD (i + 1) 0).toNat) = true then
        rewr T n ((l.set i (l.getD (i + 1) 0)).set (i + 1) (l.getD i 0)) (i + 2) e ((a + T.ad (l.getD i 0).toNat) % 256)
      else rewr T n (l.set i (T.wt (l.getD i 0).toNat)) (i + 1) e ((a + T.ad (l.getD i 0).toNat) % 256)
    else l

theorem rewr_end (T : Tb) (n : Nat) (l : List Int) (i e : Nat) (a : Int) (h : ¬ i < e) : rewr T n l i e a = l := by
  cases n with
  | zero => rfl
  | succ n => rw [rewr, if_neg h]

theorem shift_len (l : List Int) (i e : Nat) (h1 : i < e) (h2 : e ≤ l.length) : (shiftL l i e).length = l.length := by
  unfold shiftL
  simp only [List.length_append, List.length_take, List.length_drop]
  omega

theorem rewr_len (T : Tb) : ∀ (n : Nat) (l : List Int) (i e : Nat) (a : Int), e ≤ l.length → (rewr T n l i e a).length = l.length
  | 0, _, _, _, _, _ => rfl
  | n + 1, l, i, e, a, he => by
    rw [rewr]
    split
    · split
      · rw [rewr_len T n _ _ _ _ (by rw [List.length_set, shift_len l i e (by assumption) he]; omega), List.length_set, shift_len l i e (by assumption) he]
      · split
        · rw [rewr_len T n _ _ _ _ (by simp; omega)]; simp
        · rw [rewr_len T n _ _ _ _ (by simp; omega)]; simp
    · rfl

theorem wrap8_bd (x : Int) : 0 ≤ x % 256 ∧ x % 256 ≤ 255 := by omega

/-! ### The runes of a text -/
theorem decode_pos (s : ByteArray) (pos : Nat) (h : pos < s.size) : 1 ≤ (Utf8.decode s pos).2 := by
  by_cases ha : (s[pos]'h).toNat < 128
  · rw [decode_ascii s pos h ha]; exact Nat.le_refl _
  · exact (decode_high s pos h (by omega)).2

def runesF (s : ByteArray) : Nat → Nat → List Int
  | 0, _ => []
  | n + 1, pos => if pos < s.size then ((Utf8.decode s pos).1 : Int) :: runesF s n (pos + (Utf8.decode s pos).2) else []
def runes (s : ByteArray) : List Int := runesF s s.size 0

theorem runesF_end (s : ByteArray) (n pos : Nat) (h : ¬ pos < s.size) : runesF s n pos = [] := by
  cases n with
  | zero => rfl
  | succ n => rw [runesF, if_neg h]

theorem runesF_len (s : ByteArray) : ∀ n pos, (runesF s n pos).length ≤ s.size - pos
  | 0, pos => Nat.zero_le _
  | n + 1, pos => by
    rw [runesF]
    split
    · rename_i h
      have := runesF_len s n (pos + (Utf8.decode s pos).2)
      have := decode_pos s pos h
      simp only [List.length_cons]
      omega
    · exact Nat.zero_le _

/-- The state of a range over the text: what has come, what is still to come. -/
def Ranged (s : ByteArray) (pos : Nat) (pre : List Int) : Prop := ∃ n, s.size - pos ≤ n ∧ pre ++ runesF s n pos = runes s
theorem ranged_start (s : ByteArray) : Ranged s 0 [] := ⟨s.size, by omega, rfl⟩
theorem ranged_step {s : ByteArray} {pos : Nat} {pre : List Int} (h : Ranged s pos pre) (hl : pos < s.size) : Ranged s (pos + (Utf8.decode s pos).2) (pre ++ [((Utf8.decode s pos).1 : Int)]) := by
  obtain ⟨n, hn, e⟩ := h
  obtain ⟨m, rfl⟩ : ∃ m, n = m + 1 := ⟨n - 1, by omega⟩
  have := decode_pos s pos hl
  refine ⟨m, by omega, ?_⟩
  rw [← e, runesF, if_pos hl, List.append_assoc]
  rfl
theorem ranged_end {s : ByteArray} {pos : Nat} {pre : List Int} (h : Ranged s pos pre) (hl : ¬ pos < s.size) : pre = runes s := by
  obtain ⟨n, hn, e⟩ := h
  rw [runesF_end s n pos hl, List.append_nil] at e
  exact e
theorem ranged_len {s : ByteArray} {pos : Nat} {pre : List Int} (h : Ranged s pos pre) : pre.length ≤ s.size := by
  obtain ⟨n, hn, e⟩ := h
  have h1 := runesF_len s s.size 0
  have h2 := congrArg List.length e
  unfold runes at h2
  simp only [List.length_append] at h2
  omega
theorem runes_len (s : ByteArray) : (runes s).length ≤ s.size := by
  have := runesF_len s s.size 0
  unfold runes
  omega
theorem rune_wf (s : ByteArray) (pos : Nat) : (Lit.int .i32 ((Utf8.decode s pos).1 : Int)).wf = true := by
  have := decode_le s pos
  exact WalkArith.wf_i32 (by omega)

/-- The set's bytes. -/
def setb (lv : Int → Int) (lo : Int → Bool) (r : Int) : Int := if lo r then lv r else lv 63

/-! ### The row -/
/-- Block g is a row of 'cap' bytes, the first of them ys. -/
def RowAt (w : World) (g cap : Nat) (ys : List Int) : Prop :=
  ∃ tail : List Value, w.heap[g]? = some (.cells (ys.map (Value.int .u8) ++ tail).toArray 5 (0, 0)) ∧ ys.length + tail.length = cap ∧ cap ≤ maxLen

theorem rowAt_of {w : World} {base g n cap : Nat} {ys : List Int} (hn : ys.length = n) (h : w.ownsRow base 5 1 (.slice (some ⟨g, 0, none⟩) n cap) n (ys.map (Value.int .u8))) : RowAt w g cap ys ∧ base ≤ g := by
  obtain ⟨hl, h⟩ := h
  rcases h with ⟨h, _⟩ | ⟨g', cap', cur, hv, hb, hg, h1, h2, h3, h4⟩
  · cases h
  · cases hv
    refine ⟨⟨cur.toList.drop n, ?_, ?_, h2⟩, hb⟩
    · rw [← h4, Nat.mul_one, List.take_append_drop]
      simpa using hg
    · simp; omega

theorem owns_of {w : World} {base g n cap : Nat} {ys : List Int} (hn : ys.length = n) (h : RowAt w g cap ys) (hb : base ≤ g) : w.ownsRow base 5 1 (.slice (some ⟨g, 0, none⟩) n cap) n (ys.map (Value.int .u8)) := by
  obtain ⟨tail, hg, hl, hm⟩ := h
  refine ⟨by simp [hn], .inr ⟨g, cap, _, rfl, hb, hg, by omega, hm, by simp; omega, ?_⟩⟩
  simp [← hn]

namespace RowAt
variable {w : World} {g cap : Nat} {ys : List Int}
theorem cell (h : RowAt w g cap ys) {j : Nat} (hj : j < ys.length) : w.cell? ⟨g, j, none⟩ = some (.int .u8 (ys.getD j 0)) := by
  obtain ⟨tail, hg, _, _⟩ := h
  simp [World.cell?, hg, List.getElem?_append_left, hj]
theorem frozen (h : RowAt w g cap ys) (j : Nat) : w.frozen? ⟨g, j, none⟩ = false := by
  obtain ⟨tail, hg, _, _⟩ := h
  simp [World.frozen?, hg]
theorem le (h : RowAt w g cap ys) : ys.length ≤ cap ∧ cap ≤ maxLen := by
  obtain ⟨tail, _, h1, h2⟩ := h
  exact ⟨by omega, h2⟩
theorem lt (h : RowAt w g cap ys) : g < w.heap.size := by
  obtain ⟨tail, hg, _, _⟩ := h
  exact (Array.getElem?_eq_some_iff.1 hg).1
theorem set (h : RowAt w g cap ys) {j : Nat} (hj : j < ys.length) (x : Int) : RowAt (w.setCell ⟨g, j, none⟩ (.int .u8 x)) g cap (ys.set j x) := by
  obtain ⟨tail, hg, h1, h2⟩ := h
  refine ⟨tail, ?_, by simpa using h1, h2⟩
  rw [heap_setCell_same w g j _ 5 _ hg]
  congr 2
  simp [List.set_append_left, hj, List.map_set]
theorem of_block {w' : World} (h : RowAt w g cap ys) (e : w'.heap[g]? = w.heap[g]?) : RowAt w' g cap ys := by
  obtain ⟨tail, hg, h1, h2⟩ := h
  exact ⟨tail, e.trans hg, h1, h2⟩
end RowAt

theorem splice_row {α β : Type} (f : α → β) (ys : List α) (tail : List β) (a b : Nat) (h1 : a < b) (h2 : b ≤ ys.length) :
    splice (ys.map f ++ tail) a (((ys.drop (a + 1)).take (b - (a + 1))).map f) = (ys.take a ++ ((ys.drop (a + 1)).take (b - (a + 1)) ++ ys.drop (b - 1))).map f ++ tail := by
  have hl : (((ys.drop (a + 1)).take (b - (a + 1))).map f).length = b - 1 - a := by simp; omega
  unfold splice
  rw [hl, show a + (b - 1 - a) = b - 1 by omega, List.take_append_of_le_length (by simp; omega), List.drop_append_of_le_length (by simp; omega)]
  simp [List.map_append, List.map_take, List.map_drop]

/-- copy(w[i:], w[i+1:e]) inside one row, as one step of a region that draws: all else is as it was. -/
theorem step_copy_down {ops : Array Oper} {o : Oper} {a : Act} {w : World} {K : Act → World → Prop} {Q : Exit → Act → World → Prop} {E : Prop} (hgd : o.guard = none) (d s : Operand)
    (ho : o.op = .call { callee := .builtin .copy, args := #[d, s], argTypes := #[26, 26] }) (g cap : Nat) (ys : List Int) (hrow : RowAt w g cap ys) (i e : Nat) (hie : i < e) (hel : e ≤ ys.length)
    (dp sp : Option Addr) (dLen dCap sLen sCap : Nat) (hsl : sLen = e - (i + 1)) (hd : a.eval d = .slice dp dLen dCap) (hs : a.eval s = .slice sp sLen sCap) (hdl : e - i ≤ dLen)
    (hdp : i + 1 < e → dp = some ⟨g, i, none⟩) (hsp : i + 1 < e → sp = some ⟨g, i + 1, none⟩)
    (h : ∀ w', RowAt w' g cap (shiftL ys i e) → w.grownBy w' (some g) → K (a.put o.dst (goInt (sLen : Int))) w') :
    if Region.wanted o (yielded ops a.tmps) = true then Oper.wp Trym.prog o a w K Q else E := by
  have hw : Region.wanted o (yielded ops a.tmps) = true := by simp [Region.wanted, hgd]
  rw [if_pos hw]
  have hsz : (Trym.prog.info? 5).map (·.size) = some 1 := by kernel_rfl
  subst hsl
  obtain ⟨tail, hg, h1, h2⟩ := hrow
  by_cases h0 : i + 1 < e
  · obtain rfl := hdp h0
    obtain rfl := hsp h0
    have hcl : (((ys.drop (i + 1)).take (e - (i + 1))).map (Value.int .u8)).length = e - (i + 1) := by simp; omega
    have hrun := run_copy_row (P := Trym.prog) w 26 26 o.type 5 g i dLen dCap ⟨g, i + 1, none⟩ (e - (i + 1)) sCap _ 5 (((ys.drop (i + 1)).take (e - (i + 1))).map (Value.int .u8)) Trym.underlying26 hsz hg (by rw [hcl]; exact (Nat.min_eq_left (by omega)).symm)
      (fun j v hj => by
        rw [Go.WideShapes.add_plain]
        have hj' : j < e - (i + 1) := by rw [← hcl]; exact (List.getElem?_eq_some_iff.1 hj).1
        have hcell : w.cell? ⟨g, i + 1 + j, none⟩ = some (.int .u8 (ys.getD (i + 1 + j) 0)) := RowAt.cell ⟨tail, hg, h1, h2⟩ (by omega)
        rw [hcell, ← hj]
        have hlt : i + 1 + j < ys.length := by omega
        simp [hj', hlt])
      (by rw [hcl]; simp; omega) (ints_oneCell _ _)
    rw [hcl] at hrun
    have hspl := splice_row (Value.int .u8) ys tail i e hie hel
    unfold splice at hspl
    rw [hcl, ← List.append_assoc] at hspl
    rw [hspl] at hrun
    obtain ⟨X, hX⟩ : ∃ X, X = ((shiftL ys i e).map (Value.int .u8) ++ tail).toArray := ⟨_, rfl⟩
    have hrun' : (Builtin.copy_ #[26, 26] o.type #[.slice (some ⟨g, i, none⟩) dLen dCap, .slice (some ⟨g, i + 1, none⟩) (e - (i + 1)) sCap]).run Trym.prog w = Result.ok (goInt ((e - (i + 1) : Nat) : Int)) (w.setRow g X) := by rw [hX]; exact hrun
    clear hrun hspl
    unfold Oper.wp
    simp [execOp, ho, resolve, invoke, builtin, hd, hs, hrun', Result.andThen]
    refine h _ ⟨tail, (setRow_heap w g _ _ 5 _ hg).trans (by rw [hX]), ?_, h2⟩ ⟨rfl, rfl, rfl, by simp, fun k _ hk => setRow_other w g k _ (fun e => hk (by rw [e]))⟩
    rw [shift_len ys i e hie hel]; exact h1
  · have he : e = i + 1 := by omega
    subst he
    rw [Nat.sub_self] at hs h
    have hrun := run_copy_none (P := Trym.prog) w 26 26 o.type 5 dp sp dLen dCap 0 sCap Trym.underlying26 hsz (by simp)
    unfold Oper.wp
    simp [execOp, ho, resolve, invoke, builtin, hd, hs, hrun, Result.andThen]
    exact h w ⟨tail, by simpa [shiftL] using hg, by rw [shift_len ys i (i + 1) hie hel]; exact h1, h2⟩ ⟨rfl, rfl, rfl, Nat.le_refl _, fun _ _ _ => rfl⟩
end Go.Proofs.Qxb6602158aMods
