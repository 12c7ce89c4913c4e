/-
  'thaiModel' (function 7): it appends what 'mdl' says.
-/
import Derived.Test.Qxb6602158aModsMdl
import Derived.Test.Qxb6602158aModsLater
namespace Go.Proofs.Qxb6602158aMods
open Go.ChangeShapes Go.WideShapes Go.ChangeAt Go.RowKit
set_option linter.unusedVariables false

/-- The four tables in their boxes. -/
structure Tabs (w : World) (b1 b2 b3 b4 : Nat) (T : Tb) : Prop where
  wt : ∀ i, i < 256 → w.cell? ⟨b1, i, none⟩ = some (.int .u8 (T.wt i))
  mv : ∀ i, i < 256 → w.cell? ⟨b2, i, none⟩ = some (.bool (T.mv i))
  ad : ∀ i, i < 256 → w.cell? ⟨b3, i, none⟩ = some (.int .u8 (T.ad i))
  sw : ∀ i, i < 65536 → w.cell? ⟨b4, i, none⟩ = some (.bool (T.sw i))

theorem cell_below {w w' : World} {p : Addr} {v : Value} (h : w.cell? p = some v) (hb : Below w.heap.size w w') : w'.cell? p = some v := by
  rw [hb.cell (World.block_lt_of_cell? _ _ h)]
  exact h

theorem Tabs.later {w w' : World} {b1 b2 b3 b4 : Nat} {T : Tb} (h : Tabs w b1 b2 b3 b4 T) (hb : Below w.heap.size w w') : Tabs w' b1 b2 b3 b4 T :=
  ⟨fun i hi => cell_below (h.wt i hi) hb, fun i hi => cell_below (h.mv i hi) hb, fun i hi => cell_below (h.ad i hi) hb, fun i hi => cell_below (h.sw i hi) hb⟩

theorem owns_mono {w : World} {base base' n : Nat} {v : Value} {xs : List Value} (h : w.ownsRow base 5 1 v n xs) (hb : base' ≤ base) : w.ownsRow base' 5 1 v n xs := by
  obtain ⟨h1, ⟨rfl, rfl⟩ | ⟨g', cap, cur, rfl, hg, rest⟩⟩ := h
  · exact ⟨h1, .inl ⟨rfl, rfl⟩⟩
  · exact ⟨h1, .inr ⟨g', cap, cur, rfl, Nat.le_trans hb hg, rest⟩⟩

/-- The main loop's relation. -/
structure Mod (wx wy : World) (k : Nat) (c : List Int) (T : Tb) (x : Int) (R : List Int) (v : Value) (res : List Int) (q mvd n : Nat) (last a : Int) : Prop where
  own : wy.ownsRow wx.heap.size 5 1 v res.length (res.map (Value.int .u8))
  below : Below wx.heap.size wx wy
  qk : q ≤ k
  rm : res.length + mvd = q
  lb : 0 ≤ last ∧ last ≤ 255
  ab : 0 ≤ a ∧ a ≤ 255
  fuel : k - q ≤ n
  eq : mdl T x n (c.drop q) mvd last a res = R

section
variable {wx wy w' : World} {k : Nat} {c : List Int} {T : Tb} {x : Int} {R : List Int} {v v' : Value} {res : List Int} {q mvd n : Nat} {last a : Int}

theorem Mod.drewN (h : Mod wx wy k c T x R v res q mvd n last a) (z : Nat) : Mod wx (wy.drewN z) k c T x R v res q mvd n last a :=
  ⟨owns_block h.own (fun _ _ => rfl), below_drewN h.below z, h.qk, h.rm, h.lb, h.ab, h.fuel, h.eq⟩

theorem drop_get0 (c : List Int) (q : Nat) : (c.drop q).getD 0 0 = c.getD q 0 := by
  rw [List.getD_eq_getElem?_getD, List.getD_eq_getElem?_getD, List.getElem?_drop, Nat.add_zero]
theorem drop_get1 (c : List Int) (q : Nat) : (c.drop q).getD 1 0 = c.getD (q + 1) 0 := by
  rw [List.getD_eq_getElem?_getD, List.getD_eq_getElem?_getD, List.getElem?_drop]

theorem mod_move (h : Mod wx wy k c T x R v res q mvd n last a) (hc : c.length = k) (hq : q < k) {b : Nat} (hb : c.getD q 0 = (b : Int)) (hm : T.mv b = true) :
    ∃ n', Mod wx wy k c T x R v res (q + 1) (mvd + 1) n' ((T.wt b + (a + T.ad b) % 256) % 256) ((a + T.ad b) % 256) := by
  have hf := h.fuel
  have hr := h.rm
  obtain ⟨n', rfl⟩ : ∃ n', n = n' + 1 := ⟨n - 1, by omega⟩
  refine ⟨n', h.own, h.below, by omega, by omega, by omega, by omega, by omega, ?_⟩
  have e := h.eq
  rw [mdl, if_pos (by rw [List.length_drop]; omega), drop_get0, hb, Int.toNat_natCast, if_pos hm, List.drop_drop] at e
  exact e

theorem mod_keep (h : Mod wx wy k c T x R v res q mvd n last a) (hc : c.length = k) (hq : q < k) {b : Nat} (hb : c.getD q 0 = (b : Int)) (hm : T.mv b = false) (hs : ¬ (q + 1 < k ∧ T.sw (b * 256 + (c.getD (q + 1) 0).toNat) = true))
    (hown : w'.ownsRow wx.heap.size 5 1 v' (res.length + 1) (res.map (Value.int .u8) ++ [.int .u8 (T.wt b)])) (hbel : Below wx.heap.size wx w') :
    ∃ n', Mod wx w' k c T x R v' (res ++ [T.wt b]) (q + 1) mvd n' last ((a + T.ad b) % 256) := by
  have hf := h.fuel
  have hr := h.rm
  obtain ⟨n', rfl⟩ : ∃ n', n = n' + 1 := ⟨n - 1, by omega⟩
  refine ⟨n', by simpa using hown, hbel, by omega, by simp; omega, h.lb, by omega, by omega, ?_⟩
  have e := h.eq
  rw [mdl, if_pos (by rw [List.length_drop]; omega), drop_get0, drop_get1, hb, Int.toNat_natCast, if_neg (by rw [hm]; simp), if_neg (by rw [List.length_drop]; exact fun ⟨h1, h2⟩ => hs ⟨by omega, h2⟩), List.drop_drop] at e
  exact e

theorem mod_swap (h : Mod wx wy k c T x R v res q mvd n last a) (hc : c.length = k) (hq : q + 1 < k) {b y : Nat} (hb : c.getD q 0 = (b : Int)) (hy : c.getD (q + 1) 0 = (y : Int)) (hm : T.mv b = false) (hs : T.sw (b * 256 + y) = true)
    (hown : w'.ownsRow wx.heap.size 5 1 v' (res.length + 1 + 1) (res.map (Value.int .u8) ++ [.int .u8 (y : Int)] ++ [.int .u8 (b : Int)])) (hbel : Below wx.heap.size wx w') :
    ∃ n', Mod wx w' k c T x R v' (res ++ [(y : Int), (b : Int)]) (q + 2) mvd n' last ((a + T.ad b) % 256) := by
  have hf := h.fuel
  have hr := h.rm
  obtain ⟨n', rfl⟩ : ∃ n', n = n' + 1 := ⟨n - 1, by omega⟩
  refine ⟨n', by simpa using hown, hbel, by omega, by simp; omega, h.lb, by omega, by omega, ?_⟩
  have e := h.eq
  rw [mdl, if_pos (by rw [List.length_drop]; omega), drop_get0, drop_get1, hb, hy, Int.toNat_natCast, Int.toNat_natCast, if_neg (by rw [hm]; simp), if_pos ⟨by rw [List.length_drop]; omega, hs⟩, List.drop_drop] at e
  exact e
end

set_option maxRecDepth 20000 in
set_option maxHeartbeats 1000000 in
theorem model_any (m : Option Nat) (b1 b2 b3 b4 : Nat) (T : Tb) (s : ByteArray) (lv : Int → Int) (lo : Int → Bool) (w : World) (htab : Tabs w b1 b2 b3 b4 T)
    (hs : s.size ≤ 4096) (hlv : ∀ r, 0 ≤ lv r ∧ lv r ≤ 255) (hT1 : ∀ i, 0 ≤ T.wt i ∧ T.wt i ≤ 255) (hT2 : ∀ i, 0 ≤ T.ad i ∧ T.ad i ≤ 255)
    (hlk : ∀ wx, Below w.heap.size w wx → (∀ r, (Lit.int .i32 r).wf = true → (Instr.lookup 22 (.map m) (.int .i32 r) true).run Trym.prog wx = .ok (.tuple #[.int .u8 (lv r), .bool (lo r)]) wx) ∧
      (Instr.lookup 22 (.map m) (.int .i32 63) false).run Trym.prog wx = .ok (.int .u8 (lv 63)) wx) :
    Calls Trym.prog 7 #[.map m, .pointer (some ⟨b1, 0, none⟩), .pointer (some ⟨b2, 0, none⟩), .pointer (some ⟨b3, 0, none⟩), .pointer (some ⟨b4, 0, none⟩), .string s] w fun e w' => ∃ v', e = .returned v' ∧
      w'.ownsRow w.heap.size 5 1 v' (runes s).length ((rewr T (runes s).length ((runes s).map (setb lv lo)) 0 (runes s).length 0).map (Value.int .u8)) ∧ Below w.heap.size w w' := by
  obtain ⟨i0, hi, hz0, hz1, hz2⟩ := info_parts Trym.info5
  have HT := hide htab
  have HK := hide hlk
  have HV := hide hlv
  have HT1 := hide hT1
  have HT2 := hide hT2
  clear htab hlk hlv hT1 hT2
  go_enter Trym.func7, Trym.ntmps7
  go_wp2
  go_loopw [13] (fun v wr => ∃ (pos : Nat) (pre : List Int), v = .int .i64 pre.length ∧ Ranged s pos pre ∧ wr.heap[w.heap.size]? = some (.stringIter s pos) ∧ Below w.heap.size w wr) (fun _ wr => s.size - wr.iterPos w.heap.size)
  case atStart => exact ⟨0, [], rfl, ranged_start s, World.iter_heap w s 0, (Below.refl _ _).alloc (Nat.le_refl _) _⟩
  case round =>
    obtain ⟨pos, pre, rfl, h1, h2, h3⟩ := hrel
    by_cases hl : pos < s.size
    · obtain ⟨wI, HI⟩ : ∃ x, Hid (x = wr.iterAt w.heap.size s (pos + (Utf8.decode s pos).2)) := ⟨_, rfl⟩
      have hnx : ∀ ty, (Instr.next (.pointer (some ⟨w.heap.size, 0, none⟩)) true ty).run Trym.prog wr = .ok (.tuple #[.bool true, .int .i64 pos, .int .i32 ((Utf8.decode s pos).1 : Int)]) wI := fun ty => by rw [HI.out]; exact Lib.run_next_any_at (P := Trym.prog) wr w.heap.size s pos ty h2 hl
      have hpl := ranged_len h1
      have h2' : Hid (wI.heap[w.heap.size]? = some (.stringIter s (pos + (Utf8.decode s pos).2))) := by unfold Hid; rw [HI.out]; exact Lib.iterAt_heap wr _ s pos _ h2
      have h3' : Hid (Below w.heap.size w wI) := by unfold Hid; rw [HI.out]; exact Lib.below_iterAt h3 (Nat.le_refl _) s _
      have h1' := hide (ranged_step h1 hl)
      have hp1 := iterPos_of h2'.out
      have hp0 := iterPos_of h2
      have hd := decode_pos s pos hl
      have HP1 := hide hp1
      have HP0 := hide hp0
      clear h1 h2 h3 hp1 hp0
      go_wp2
      go_roundw
      case rel => exact ⟨_, _, by simp, h1'.out, h2'.out, h3'.out⟩
      case measure => rw [HP1.out, HP0.out]; omega
    · have hnx := fun ty => Lib.run_next_end_at (P := Trym.prog) wr w.heap.size s pos ty h2 hl
      obtain rfl := ranged_end h1 hl
      obtain ⟨k, HKk⟩ : ∃ k, Hid ((runes s).length = k) := ⟨_, rfl⟩
      have hkl := runes_len s
      rw [HKk.out] at hkl
      rw [HKk.out]
      have BG := hide h3
      have hk2 := (HK.out wr h3).2
      have hsz := h3.size
      clear h1 h2 h3
      go_wp2_with (at_make; refine wpList_make_own _ rfl _ _ 26 rfl w.heap.size 5 i0 (.int .u8 0) 1 Trym.underlying26 hi hz0 hz1 .i64 .i64 (k : Int) k rfl rfl rfl (by rw [hz2]; omega) (by unfold maxLen; omega) hsz ?_; intro w4 hown4 hgrow4)
      obtain ⟨B1, HB1⟩ : ∃ B1, Hid (wr.heap.size = B1) := ⟨_, rfl⟩
      rw [HB1.out] at hown4 hsz ⊢
      have H4 := hide hown4
      have BW := hide (BG.out.grown hgrow4 BG.out.size (fun q hq => by cases hq))
      clear hown4 hgrow4 hk2 hnx BG HB1
      go_loopw [15] (fun v wx => ∃ pos pre, Coll w4 w.heap.size 0 [] (some B1) s lv lo wx v pos pre) (fun _ wx => s.size - wx.iterPos w4.heap.size)
      case atStart => exact ⟨0, [], coll_start (xs := []) H4.out⟩
      case round =>
        obtain ⟨pos, pre, hC⟩ := hrel
        obtain ⟨h1, h2, h3, h4, h5⟩ := hC
        by_cases hl : pos < s.size
        · obtain ⟨wI, HI⟩ : ∃ x, Hid (x = wr.iterAt w4.heap.size s (pos + (Utf8.decode s pos).2)) := ⟨_, rfl⟩
          obtain ⟨r, HR⟩ : ∃ x, Hid (x = ((Utf8.decode s pos).1 : Int)) := ⟨_, rfl⟩
          have hnx : ∀ ty, (Instr.next (.pointer (some ⟨w4.heap.size, 0, none⟩)) true ty).run Trym.prog wr = .ok (.tuple #[.bool true, .int .i64 pos, .int .i32 r]) wI := fun ty => by rw [HI.out, HR.out]; exact Lib.run_next_any_at (P := Trym.prog) wr w4.heap.size s pos ty h2 hl
          have gI : w4.grownBy wI (some B1) := by rw [HI.out]; exact grown_iter h4 (Nat.le_refl _) s _
          have bI := BW.out.grown gI BW.out.size (fun q hq => by cases hq; exact hsz)
          have hk1 := (HK.out wI bI).1 r (by rw [HR.out]; exact rune_wf s pos)
          have hOI : wI.ownsRow w.heap.size 5 1 u15 (0 + pre.length) (([] ++ pre.map (setb lv lo)).map (Value.int .u8)) := by rw [HI.out]; exact owns_iter h3 h2 _
          have hpl := ranged_len h1
          have HCC : Hid (Coll w4 w.heap.size 0 [] (some B1) s lv lo wr u15 pos pre) := ⟨h1, h2, h3, h4, h5⟩
          have hOIb : w.heap.size ≤ wI.heap.size := bI.size
          clear h1 h2 h3 h4 h5 gI bI
          cases hlo : lo r
          · go_wp2_with (first
              | (at_builtin; refine wpList_append_own_at _ rfl (.tmp 53) (.tmp 55) 26 rfl w.heap.size 5 i0 (.int .u8 0) 1 1 Trym.underlying26 hi hz0 hz1 hz2 rfl (by decide) u15 (0 + pre.length) _ rfl (hOI.alloc _) ⟨wI.heap.size, 0, none⟩ 1 1 [.int .u8 (lv 63)] rfl rfl (cell_one_new _ _ _) (ints_oneCell .u8 [lv 63]) (by unfold maxLen; omega) (by omega) (by simp; omega) ?_; intro v' w1 hown1 hgrow1 hnil1 hloc1))
            have hC := coll_step HCC.out hl (lv 63) (by rw [← HR.out]; simp [setb, hlo]) hown1 (HI.out ▸ hgrow1) (HI.out ▸ hloc1)
            have hp1 := iterPos_of hC.2.1
            have hp0 := iterPos_of HCC.out.2.1
            have hd := decode_pos s pos hl
            go_roundw
            case rel => exact ⟨_, _, hC⟩
            case measure => rw [hp1, hp0]; omega
          · go_wp2_with (first
              | (at_builtin; refine wpList_append_own_at _ rfl (.tmp 49) (.tmp 51) 26 rfl w.heap.size 5 i0 (.int .u8 0) 1 1 Trym.underlying26 hi hz0 hz1 hz2 rfl (by decide) u15 (0 + pre.length) _ rfl (hOI.alloc _) ⟨wI.heap.size, 0, none⟩ 1 1 [.int .u8 (lv r)] rfl rfl (cell_one_new _ _ _) (ints_oneCell .u8 [lv r]) (by unfold maxLen; omega) (by omega) (by simp; omega) ?_; intro v' w1 hown1 hgrow1 hnil1 hloc1))
            have hC := coll_step HCC.out hl (lv r) (by rw [← HR.out]; simp [setb, hlo]) hown1 (HI.out ▸ hgrow1) (HI.out ▸ hloc1)
            have hp1 := iterPos_of hC.2.1
            have hp0 := iterPos_of HCC.out.2.1
            have hd := decode_pos s pos hl
            go_roundw
            case rel => exact ⟨_, _, hC⟩
            case measure => rw [hp1, hp0]; omega
        · have hnx := fun ty => Lib.run_next_end_at (P := Trym.prog) wr w4.heap.size s pos ty h2 hl
          obtain rfl := ranged_end h1 hl
          obtain ⟨c, HCc⟩ : ∃ c, Hid ((runes s).map (setb lv lo) = c) := ⟨_, rfl⟩
          have HU : Hid (∀ y ∈ c, 0 ≤ y ∧ y ≤ 255) := fun y hy => by
            rw [← HCc.out] at hy
            obtain ⟨r, _, rfl⟩ := List.mem_map.1 hy
            unfold setb
            split
            · exact HV.out _
            · exact HV.out _
          have HCl : Hid (c.length = k) := by unfold Hid; rw [← HCc.out, List.length_map, HKk.out]
          rw [HKk.out, HCc.out, Nat.zero_add, List.nil_append] at h3
          obtain ⟨ao, cap1, rfl⟩ := owns_shape h3
          have BX := BW.out.grown h4 BW.out.size (fun q hq => by cases hq; exact hsz)
          have P1 : Hid (∀ wy, Below wr.heap.size wr wy → 0 < k → ∃ g, ao = some ⟨g, 0, none⟩ ∧ ∀ j, j < k → wy.cell? ⟨g, j, none⟩ = some (.int .u8 (c.getD j 0))) := fun wy hb h0 => owns_read HCl.out (owns_below h3 hb) h0
          have PT : Hid (∀ wy, Below wr.heap.size wr wy → Tabs wy b1 b2 b3 b4 T) := fun wy hb => (HT.out.later BX).later hb
          have BA : Hid (∀ wy, Below wr.heap.size wr wy → Below w.heap.size w wy) := fun wy hb => BX.trans (hb.mono BX.size)
          have hbs : Hid (w.heap.size ≤ wr.heap.size) := BX.size
          clear h1 h2 h3 h4 h5 BX BW HT HK HV H4
          obtain ⟨wX, HWX⟩ : ∃ x, Hid (wr = x) := ⟨_, rfl⟩
          go_wp2_with (at_make; refine wpList_make_own _ rfl _ _ 26 rfl wr.heap.size 5 i0 (.int .u8 0) 1 Trym.underlying26 hi hz0 hz1 .i64 .i64 (k : Int) k rfl rfl rfl (by rw [hz2]; omega) (by unfold maxLen; omega) (Nat.le_refl _) ?_; intro w5 hown5 hgrow5)
          have B5 := hide ((Below.refl wr.heap.size wr).grown hgrow5 (Nat.le_refl _) (fun q hq => by cases hq))
          have O5 := hide hown5
          rw [HWX.out] at P1 PT BA hbs B5 O5 ⊢
          clear hown5 hgrow5 hnx HWX
          obtain ⟨x, HX⟩ : ∃ x, Hid (c.getD (k - 1) 0 = x) := ⟨_, rfl⟩
          obtain ⟨R, HRR⟩ : ∃ R, Hid (rewr T k c 0 k 0 = R) := ⟨_, rfl⟩
          have M0 : Hid (Mod wX w5 k c T x R (.slice (some ⟨wX.heap.size, 0, none⟩) 0 k) [] 0 0 k 0 0) := ⟨O5.out, B5.out, Nat.zero_le _, rfl, by omega, by omega, by omega, by rw [← HRR.out, rewr_model T k c HCl.out 0, HX.out]; rfl⟩
          go_loopw [20, 21, 22, 23, 24] (fun v20 v21 v22 v23 v24 wy => ∃ (res : List Int) (q mvd n : Nat) (last a : Int), v21 = .int .i64 mvd ∧ v22 = .int .u8 last ∧ v23 = .int .u8 a ∧ v24 = .int .i64 q ∧ Mod wX wy k c T x R v20 res q mvd n last a)
            (fun _ _ _ _ v24 _ => k - (intOf v24).toNat)
          case atStart => exact ⟨[], 0, 0, k, 0, 0, rfl, rfl, rfl, rfl, M0.out⟩
          case round =>
            obtain ⟨res, q, mvd, n, last, a, rfl, rfl, rfl, rfl, hM⟩ := hrel
            have hqk := hM.qk
            have hab := hM.ab
            have hlb := hM.lb
            have hrm := hM.rm
            have hMM := hide hM
            clear hM
            by_cases hq : q < k
            · have d0 : decide ((q : Int) < (k : Int)) = true := by simp; omega
              obtain ⟨g, rfl, hcell⟩ := P1.out _ hMM.out.below (by omega)
              obtain ⟨b, hb, hbe⟩ : ∃ b : Nat, b < 256 ∧ c.getD q 0 = (b : Int) := by
                have := HU.out _ (getD_mem (xs := c) (j := q) (by rw [HCl.out]; exact hq))
                exact ⟨(c.getD q 0).toNat, by omega, by omega⟩
              have c0 := hcell q hq
              rw [hbe] at c0
              have tW := PT.out _ hMM.out.below
              have cad := tW.ad b hb
              have cmv := tW.mv b hb
              have cwt := tW.wt b hb
              have had := HT2.out b
              have HTW := hide tW
              have HBE := hide hbe
              have HC := hide hcell
              have hbz : (b : Int) < 256 := by omega
              clear tW hbe hcell
              cases hmv : T.mv b
              · rw [hmv] at cmv
                go_upto_region 26 with fail
                generalize hA : (a + T.ad b) % 256 = a2
                have HA2 := hide hA
                have hab2 : 0 ≤ a2 ∧ a2 ≤ 255 := by omega
                clear hA
                by_cases hq1 : q + 1 < k
                · have dg : (q : Int) + 1 < (k : Int) := by omega
                  obtain ⟨y, hy, hye⟩ : ∃ y : Nat, y < 256 ∧ c.getD (q + 1) 0 = (y : Int) := by
                    have := HU.out _ (getD_mem (xs := c) (j := q + 1) (by rw [HCl.out]; exact hq1))
                    exact ⟨(c.getD (q + 1) 0).toNat, by omega, by omega⟩
                  have c1 := HC.out (q + 1) hq1
                  rw [hye] at c1
                  have csw := HTW.out.sw (b * 256 + y) (by omega)
                  have hyz : (y : Int) < 256 := by omega
                  have HYE := hide hye
                  clear hye
                  cases hsw : T.sw (b * 256 + y)
                  · rw [hsw] at csw
                    have HNS : Hid (¬ (q + 1 < k ∧ T.sw (b * 256 + (c.getD (q + 1) 0).toNat) = true)) := fun h => by rw [HYE.out, Int.toNat_natCast, hsw] at h; exact Bool.false_ne_true h.2
                    go_wp2_with fail
                    go_quiet (fail)
                    have M2 := hMM.out.drewN nq
                    have cwt' : (wr.drewN nq).cell? ⟨b1, b, none⟩ = some (.int .u8 (T.wt b)) := cwt
                    have bsz : wX.heap.size ≤ (wr.drewN nq).heap.size := M2.below.size
                    generalize wr.drewN nq = wz at M2 cwt' bsz ⊢
                    clear cwt
                    have hrm := M2.rm
                    go_wp2_with (first | (at_builtin; refine wpList_append_own_at _ rfl (.tmp 120) (.tmp 126) 26 rfl wX.heap.size 5 i0 (.int .u8 0) 1 1 Trym.underlying26 hi hz0 hz1 hz2 rfl (by decide) u20 res.length _ rfl (M2.own.alloc _) ⟨wz.heap.size, 0, none⟩ 1 1 [.int .u8 (T.wt b)] rfl rfl (cell_one_new _ _ _) (ints_oneCell .u8 [(T.wt b)]) (by unfold maxLen; omega) (by omega) (by simp; omega) ?_; intro v1 w1 hown1 hgrow1 hnil1 hloc1))
                    have hbl := (M2.below.alloc bsz _).grown hgrow1 (by simp; omega) (fun j hj => owns_base M2.own hj)
                    obtain ⟨n', hN'⟩ := mod_keep M2 HCl.out hq HBE.out hmv HNS.out hown1 hbl
                    rw [HA2.out] at hN'
                    have HN' := hide hN'
                    clear hN' hbl hown1 hgrow1 hloc1 hnil1
                    go_wp2
                    go_roundw
                    case rel => exact ⟨_, q + 1, mvd, n', last, a2, rfl, rfl, rfl, by go_num, HN'.out⟩
                    case measure => simp [intOf]; omega
                  · rw [hsw] at csw
                    go_wp2_with fail
                    go_quiet (fail)
                    have M2 := hMM.out.drewN nq
                    have c1' : (wr.drewN nq).cell? ⟨g, q + 1, none⟩ = some (.int .u8 (y : Int)) := c1
                    have bsz : wX.heap.size ≤ (wr.drewN nq).heap.size := M2.below.size
                    generalize wr.drewN nq = wz at M2 c1' bsz ⊢
                    clear c1
                    have hrm := M2.rm
                    go_upto_region 28 with (first | (at_builtin; refine wpList_append_own_at _ rfl (.tmp 106) (.tmp 112) 26 rfl wX.heap.size 5 i0 (.int .u8 0) 1 1 Trym.underlying26 hi hz0 hz1 hz2 rfl (by decide) u20 res.length _ rfl (M2.own.alloc _) ⟨wz.heap.size, 0, none⟩ 1 1 [.int .u8 (y : Int)] rfl rfl (cell_one_new _ _ _) (ints_oneCell .u8 [(y : Int)]) (by unfold maxLen; omega) (by omega) (by simp; omega) ?_; intro v1 w1 hown1 hgrow1 hnil1 hloc1))
                    have hbl := (M2.below.alloc bsz _).grown hgrow1 (by simp; omega) (fun j hj => owns_base M2.own hj)
                    have O1 := hide hown1
                    have BL1 := hide hbl
                    have bs1 := hbl.size
                    clear hbl hown1 hgrow1 hloc1 hnil1 c1'
                    go_wp2_with (first | (at_builtin; refine wpList_append_own_at _ rfl (.tmp 114) (.tmp 116) 26 rfl wX.heap.size 5 i0 (.int .u8 0) 1 1 Trym.underlying26 hi hz0 hz1 hz2 rfl (by decide) v1 (res.length + 1) _ rfl (O1.out.alloc _) ⟨w1.heap.size, 0, none⟩ 1 1 [.int .u8 (b : Int)] rfl rfl (cell_one_new _ _ _) (ints_oneCell .u8 [(b : Int)]) (by unfold maxLen; omega) (by omega) (by simp; omega) ?_; intro v2 w2 hown2 hgrow2 hnil2 hloc2))
                    have hbl := (BL1.out.alloc bs1 _).grown hgrow2 (by simp; omega) (fun j hj => owns_base O1.out hj)
                    obtain ⟨n', hN'⟩ := mod_swap M2 HCl.out hq1 HBE.out HYE.out hmv hsw hown2 hbl
                    rw [HA2.out] at hN'
                    have HN' := hide hN'
                    clear hN' hbl hown2 hgrow2 hloc2 hnil2
                    go_wp2
                    go_roundw
                    case rel => exact ⟨_, q + 2, mvd, n', last, a2, rfl, rfl, rfl, by go_num, HN'.out⟩
                    case measure => simp [intOf]; omega
                · have dg : decide ((q : Int) + 1 < (k : Int)) = false := by simp; omega
                  have HNS : Hid (¬ (q + 1 < k ∧ T.sw (b * 256 + (c.getD (q + 1) 0).toNat) = true)) := fun h => hq1 h.1
                  go_wp2_with fail
                  go_quiet (fail)
                  have M2 := hMM.out.drewN nq
                  have cwt' : (wr.drewN nq).cell? ⟨b1, b, none⟩ = some (.int .u8 (T.wt b)) := cwt
                  have bsz : wX.heap.size ≤ (wr.drewN nq).heap.size := M2.below.size
                  generalize wr.drewN nq = wz at M2 cwt' bsz ⊢
                  clear cwt
                  have hrm := M2.rm
                  go_wp2_with (first | (at_builtin; refine wpList_append_own_at _ rfl (.tmp 120) (.tmp 126) 26 rfl wX.heap.size 5 i0 (.int .u8 0) 1 1 Trym.underlying26 hi hz0 hz1 hz2 rfl (by decide) u20 res.length _ rfl (M2.own.alloc _) ⟨wz.heap.size, 0, none⟩ 1 1 [.int .u8 (T.wt b)] rfl rfl (cell_one_new _ _ _) (ints_oneCell .u8 [(T.wt b)]) (by unfold maxLen; omega) (by omega) (by simp; omega) ?_; intro v1 w1 hown1 hgrow1 hnil1 hloc1))
                  have hbl := (M2.below.alloc bsz _).grown hgrow1 (by simp; omega) (fun j hj => owns_base M2.own hj)
                  obtain ⟨n', hN'⟩ := mod_keep M2 HCl.out hq HBE.out hmv HNS.out hown1 hbl
                  rw [HA2.out] at hN'
                  have HN' := hide hN'
                  clear hN' hbl hown1 hgrow1 hloc1 hnil1
                  go_wp2
                  go_roundw
                  case rel => exact ⟨_, q + 1, mvd, n', last, a2, rfl, rfl, rfl, by go_num, HN'.out⟩
                  case measure => simp [intOf]; omega
              · rw [hmv] at cmv
                go_upto_region 22 with fail
                generalize hA : (a + T.ad b) % 256 = a2
                have HA2 := hide hA
                have hab2 : 0 ≤ a2 ∧ a2 ≤ 255 := by omega
                clear hA
                obtain ⟨n', hN'⟩ := mod_move hMM.out HCl.out hq HBE.out hmv
                rw [HA2.out] at hN'
                have HN' := hide hN'
                have hwb := HT1.out b
                clear hN'
                go_wp2
                go_roundw
                case rel => exact ⟨res, q + 1, mvd + 1, n', (T.wt b + a2) % 256, a2, by go_num, rfl, rfl, by go_num, HN'.out⟩
                case measure => simp [intOf]; omega
            · have d0 : decide ((q : Int) < (k : Int)) = false := by simp; omega
              have hEq := hMM.out.eq
              rw [mdl_end _ _ _ _ _ _ _ _ (by rw [List.length_drop, HCl.out]; omega)] at hEq
              have HEq := hide hEq
              have HOr := hide hMM.out.own
              have HBr := hide hMM.out.below
              clear hEq
              go_wp2
              go_loopw [20, 26] (fun v20 v26 wy => ∃ i : Nat, 1 ≤ i ∧ (i ≤ mvd ∨ i = 1) ∧ v26 = .int .i64 i ∧ wy.ownsRow wX.heap.size 5 1 v20 (res.length + (i - 1)) ((res ++ List.replicate (i - 1) x).map (Value.int .u8)) ∧ Below wX.heap.size wX wy) (fun _ v26 _ => mvd - (intOf v26).toNat)
              case atStart => exact ⟨1, Nat.le_refl _, .inr rfl, rfl, by simpa using HOr.out, HBr.out⟩
              case round =>
                obtain ⟨i, hi1, hi2, rfl, hO, hbw⟩ := hrel
                have BR := hide hbw
                have bsz := hbw.size
                clear hbw
                by_cases hlt : i < mvd
                · have d1 : decide ((i : Int) < (mvd : Int)) = true := by simp; omega
                  obtain ⟨g, rfl, hcell⟩ := P1.out _ BR.out (by omega)
                  have c0 := hcell (k - 1) (by omega)
                  rw [HX.out] at c0
                  have hk0 : 0 < k := by omega
                  clear hcell
                  go_wp2_with (first | (at_builtin; refine wpList_append_own_at _ rfl (.tmp 135) (.tmp 141) 26 rfl wX.heap.size 5 i0 (.int .u8 0) 1 1 Trym.underlying26 hi hz0 hz1 hz2 rfl (by decide) u20 (res.length + (i - 1)) _ rfl (hO.alloc _) ⟨wr.heap.size, 0, none⟩ 1 1 [.int .u8 x] rfl rfl (cell_one_new _ _ _) (ints_oneCell .u8 [x]) (by unfold maxLen; omega) (by omega) (by simp; omega) ?_; intro v1 w1 hown1 hgrow1 hnil1 hloc1))
                  have hbl := hide ((BR.out.alloc bsz _).grown hgrow1 (by simp; omega) (fun j hj => owns_base hO hj))
                  have hon : Hid (w1.ownsRow wX.heap.size 5 1 v1 (res.length + (i + 1 - 1)) ((res ++ List.replicate (i + 1 - 1) x).map (Value.int .u8))) := by
                    unfold Hid
                    rw [show i + 1 - 1 = (i - 1) + 1 by omega, List.replicate_succ']
                    simpa [Nat.add_assoc] using hown1
                  clear hown1 hgrow1 hloc1 hnil1
                  go_wp2
                  go_roundw
                  case rel => exact ⟨i + 1, by omega, .inl (by omega), by go_num, hon.out, hbl.out⟩
                  case measure => simp [intOf]; omega
                · have d1 : decide ((i : Int) < (mvd : Int)) = false := by simp; omega
                  have hie : i - 1 = mvd - 1 := by omega
                  by_cases hm0 : mvd = 0
                  · subst hm0
                    have hfin : Hid (wr.ownsRow wX.heap.size 5 1 u20 k (R.map (Value.int .u8))) := by
                      unfold Hid
                      rw [← HEq.out]
                      have e1 : i - 1 = 0 := by omega
                      have e2 : res.length = k := by omega
                      rw [e1] at hO
                      simpa [tailL, e2] using hO
                    clear hO
                    go_wp2
                    go_ret
                    rw [HKk.out, HCc.out, HRR.out]
                    exact ⟨_, rfl, owns_mono hfin.out hbs.out, BA.out _ BR.out⟩
                  · have d2 : (0 : Int) < (mvd : Int) := by omega
                    go_wp2_with (first | (at_builtin; refine wpList_append_own_at _ rfl (.tmp 145) (.tmp 147) 26 rfl wX.heap.size 5 i0 (.int .u8 0) 1 1 Trym.underlying26 hi hz0 hz1 hz2 rfl (by decide) u20 (res.length + (i - 1)) _ rfl (hO.alloc _) ⟨wr.heap.size, 0, none⟩ 1 1 [.int .u8 last] rfl rfl (cell_one_new _ _ _) (ints_oneCell .u8 [last]) (by unfold maxLen; omega) (by omega) (by simp; omega) ?_; intro v1 w1 hown1 hgrow1 hnil1 hloc1))
                    have hbl := hide ((BR.out.alloc bsz _).grown hgrow1 (by simp; omega) (fun j hj => owns_base hO hj))
                    have hfin : Hid (w1.ownsRow wX.heap.size 5 1 v1 k (R.map (Value.int .u8))) := by
                      unfold Hid
                      rw [← HEq.out]
                      have e2 : res.length + (i - 1) + 1 = k := by omega
                      rw [e2, hie] at hown1
                      simpa [tailL, hm0] using hown1
                    clear hown1 hgrow1 hloc1 hnil1 hO
                    go_wp2
                    go_ret
                    rw [HKk.out, HCc.out, HRR.out]
                    exact ⟨_, rfl, owns_mono hfin.out hbs.out, BA.out _ hbl.out⟩
end Go.Proofs.Qxb6602158aMods
