/-
  The plain law: what 'weigh' rewrites in place is what 'thaiModel' appends.
-/
import Derived.Test.Qxb6602158aModsWeigh
namespace Go.Proofs.Qxb6602158aMods
open Go.ChangeShapes Go.WideShapes Go.ChangeAt Go.RowKit
set_option linter.unusedVariables false

/-- What stands behind the bytes that were not moved. -/
def tailL (x : Int) (mvd : Nat) (last : Int) : List Int := List.replicate (mvd - 1) x ++ (if mvd = 0 then [] else [last])

/-- The model: fuel, the bytes still to come, how many were moved, the last weight, what was added, what stands. -/
def mdl (T : Tb) (x : Int) : Nat → List Int → Nat → Int → Int → List Int → List Int
  | 0, _, mvd, last, _, res => res ++ tailL x mvd last
  | n + 1, rest, mvd, last, a, res =>
    if 0 < rest.length then
      if T.mv (rest.getD 0 0).toNat then
        mdl T x n (rest.drop 1) (mvd + 1) ((T.wt (rest.getD 0 0).toNat + (a + T.ad (rest.getD 0 0).toNat) % 256) % 256) ((a + T.ad (rest.getD 0 0).toNat) % 256) res
      else if 1 < rest.length ∧ T.sw ((rest.getD 0 0).toNat * 256 + (rest.getD 1 0).toNat) = true then
        mdl T x n (rest.drop 2) mvd last ((a + T.ad (rest.getD 0 0).toNat) % 256) (res ++ [rest.getD 1 0, rest.getD 0 0])
      else mdl T x n (rest.drop 1) mvd last ((a + T.ad (rest.getD 0 0).toNat) % 256) (res ++ [T.wt (rest.getD 0 0).toNat])
    else res ++ tailL x mvd last

theorem mdl_end (T : Tb) (x : Int) (n : Nat) (rest : List Int) (mvd : Nat) (last a : Int) (res : List Int) (h : ¬ 0 < rest.length) : mdl T x n rest mvd last a res = res ++ tailL x mvd last := by
  cases n with
  | zero => rfl
  | succ n => rw [mdl, if_neg h]

theorem getD_app (res l : List Int) (j : Nat) : (res ++ l).getD (res.length + j) 0 = l.getD j 0 := by
  rw [List.getD_eq_getElem?_getD, List.getD_eq_getElem?_getD, List.getElem?_append_right (by omega), Nat.add_sub_cancel_left]

theorem set_last (l : List Int) (y v : Int) {k : Nat} (hk : k = l.length) : (l ++ [y]).set k v = l ++ [v] := by
  subst hk
  simp

theorem tail_len (x : Int) (mvd : Nat) (last : Int) : (tailL x mvd last).length = mvd := by
  unfold tailL
  rw [List.length_append, List.length_replicate]
  split
  · simp; omega
  · simp; omega

theorem drop_app : ∀ (res l : List Int) (j : Nat), (res ++ l).drop (res.length + j) = l.drop j
  | [], l, j => by simp
  | a :: res, l, j => by
    rw [List.length_cons, show res.length + 1 + j = (res.length + j) + 1 by omega, List.cons_append, List.drop_succ_cons]
    exact drop_app res l j

/-- One move. -/
theorem move_eq (res r : List Int) (b x last W : Int) (mvd : Nat) (hx : ∃ q, b :: r = q ++ [x]) :
    (shiftL (res ++ (b :: r ++ tailL x mvd last)) res.length (res.length + (r.length + 1))).set ((res ++ (b :: r ++ tailL x mvd last)).length - 1) W = res ++ (r ++ tailL x (mvd + 1) W) := by
  have e1 : shiftL (res ++ (b :: r ++ tailL x mvd last)) res.length (res.length + (r.length + 1)) = res ++ (r ++ (x :: tailL x mvd last)) := by
    unfold shiftL
    obtain ⟨q, hq⟩ := hx
    have hql : q.length = r.length := by
      have := congrArg List.length hq
      simp at this
      exact this.symm
    rw [List.take_left' rfl, drop_app, show res.length + (r.length + 1) - (res.length + 1) = r.length by omega, show res.length + (r.length + 1) - 1 = res.length + (q.length + 0) by omega, drop_app, List.cons_append, List.drop_succ_cons, List.drop_zero, List.take_left' rfl,
      ← List.cons_append, hq, List.append_assoc, drop_app, List.drop_zero]
    rfl
  rw [e1]
  have e2 : (res ++ (b :: r ++ tailL x mvd last)).length - 1 = res.length + r.length + mvd := by
    rw [List.length_append, List.length_append, tail_len, List.length_cons]
    omega
  rw [e2]
  cases mvd with
  | zero =>
    simp [tailL]
  | succ m =>
    have := set_last (res ++ (r ++ List.replicate (m + 1) x)) last W (k := res.length + r.length + (m + 1)) (by simp; omega)
    simpa [tailL, List.replicate_succ] using this

theorem rewr_mdl (T : Tb) (x : Int) : ∀ (n : Nat) (rest : List Int) (mvd : Nat) (last a : Int) (res : List Int), (rest = [] ∨ ∃ q, rest = q ++ [x]) → rest.length ≤ n →
    rewr T n (res ++ (rest ++ tailL x mvd last)) res.length (res.length + rest.length) a = mdl T x n rest mvd last a res
  | 0, rest, mvd, last, a, res, hx, hn => by
    obtain rfl : rest = [] := List.eq_nil_of_length_eq_zero (by omega)
    rfl
  | n + 1, [], mvd, last, a, res, hx, hn => by
    rw [rewr_end _ _ _ _ _ _ (by simp), mdl_end _ _ _ _ _ _ _ _ (by simp)]
    rfl
  | n + 1, b :: r, mvd, last, a, res, hx, hn => by
    have hx1 : ∃ q, b :: r = q ++ [x] := hx.resolve_left (by simp)
    have hx2 : r = [] ∨ ∃ q, r = q ++ [x] := by
      obtain ⟨q, hq⟩ := hx1
      cases q with
      | nil => left; simp at hq; exact hq.2
      | cons c q => right; simp at hq; exact ⟨q, hq.2⟩
    simp only [List.length_cons] at hn
    have g0 : (res ++ (b :: r ++ tailL x mvd last)).getD res.length 0 = b := by simp
    have m0 : (b :: r).getD 0 0 = b := rfl
    rw [rewr, mdl, if_pos (show res.length < res.length + (b :: r).length by simp), if_pos (show 0 < (b :: r).length by simp), g0, m0]
    by_cases hm : T.mv b.toNat = true
    · rw [if_pos hm, if_pos hm, List.length_cons, move_eq res r b x last _ mvd hx1, show res.length + (r.length + 1) - 1 = res.length + r.length by omega]
      exact rewr_mdl T x n r (mvd + 1) _ _ res hx2 (by omega)
    · rw [if_neg hm, if_neg hm]
      have hk : rewr T n ((res ++ (b :: r ++ tailL x mvd last)).set res.length (T.wt b.toNat)) (res.length + 1) (res.length + (b :: r).length) ((a + T.ad b.toNat) % 256) = mdl T x n ((b :: r).drop 1) mvd last ((a + T.ad b.toNat) % 256) (res ++ [T.wt b.toNat]) := by
        have := rewr_mdl T x n r mvd last ((a + T.ad b.toNat) % 256) (res ++ [T.wt b.toNat]) hx2 (by omega)
        rw [show (b :: r).drop 1 = r from rfl, ← this]
        have hset := set_app (xs := res) (l := b :: r ++ tailL x mvd last) rfl 0 (T.wt b.toNat)
        rw [Nat.add_zero] at hset
        rw [hset]
        simp [Nat.add_assoc, Nat.add_comm 1]
      cases r with
      | nil =>
        rw [if_neg (by simp), if_neg (by simp)]
        exact hk
      | cons y r =>
        have g1 : (res ++ (b :: y :: r ++ tailL x mvd last)).getD (res.length + 1) 0 = y := by simp
        have m1 : (b :: y :: r).getD 1 0 = y := rfl
        rw [g1, m1]
        by_cases hs : T.sw (b.toNat * 256 + y.toNat) = true
        · rw [if_pos ⟨by simp, hs⟩, if_pos ⟨by simp, hs⟩]
          have hx3 : r = [] ∨ ∃ q, r = q ++ [x] := by
            rcases hx2 with h | ⟨q, hq⟩
            · cases h
            · cases q with
              | nil => left; simp at hq; exact hq.2
              | cons c q => right; simp at hq; exact ⟨q, hq.2⟩
          have := rewr_mdl T x n r mvd last ((a + T.ad b.toNat) % 256) (res ++ [y, b]) hx3 (by simp only [List.length_cons] at hn; omega)
          rw [show (b :: y :: r).drop 2 = r from rfl, ← this]
          have hset := set_app (xs := res) (l := b :: y :: r ++ tailL x mvd last) rfl 0 y
          rw [Nat.add_zero] at hset
          rw [hset, set_app rfl]
          simp [Nat.add_assoc, Nat.add_comm 2]
        · rw [if_neg (fun h => hs h.2), if_neg (fun h => hs h.2)]
          exact hk

theorem rewr_model (T : Tb) (k : Nat) (c : List Int) (hk : c.length = k) (last : Int) : rewr T k c 0 k 0 = mdl T (c.getD (k - 1) 0) k c 0 last 0 [] := by
  have := rewr_mdl T (c.getD (k - 1) 0) k c 0 last 0 [] (by
    by_cases h : c = []
    · exact .inl h
    · right
      refine ⟨c.dropLast, ?_⟩
      have h0 : c.length ≠ 0 := fun e => h (List.eq_nil_of_length_eq_zero e)
      have hl : c.getD (k - 1) 0 = c.getLast h := by
        rw [List.getLast_eq_getElem, List.getD_eq_getElem?_getD, ← hk, List.getElem?_eq_getElem (by omega)]
        rfl
      rw [hl]
      exact (List.dropLast_concat_getLast h).symm) (by omega)
  simpa [tailL, hk] using this
end Go.Proofs.Qxb6602158aMods
