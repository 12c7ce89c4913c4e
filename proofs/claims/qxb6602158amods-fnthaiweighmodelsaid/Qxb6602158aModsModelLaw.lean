/-
  'FnThaiWeighModel' (function 3).
-/
import Derived.Test.Qxb6602158aModsModel
namespace Go.Proofs.Qxb6602158aMods
open Go.ChangeShapes Go.WideShapes Go.ChangeAt Go.RowKit
set_option linter.unusedVariables false

set_option maxHeartbeats 1000000 in
theorem mdl_law (m : Option Nat) (c1 c2 c3 c4 : Array Value) (wt : Nat → Int) (mv : Nat → Bool) (ad : Nat → Int) (sw : Nat → Bool) (a5 : Option Addr) (len5 cap5 : Nat) (ys : List Int) (s : ByteArray) (lv : Int → Int) (lo : Int → Bool) (ml : Int) (w : World)
    (hL : Look w m lv lo ml) (h1 : IsBytes c1 256 wt) (h2 : IsBools c2 256 mv) (h3 : IsBytes c3 256 ad) (h4 : IsBools c4 65536 sw) (h5 : CameIn w a5 len5 cap5 ys) (hl5 : len5 ≤ 9223372036854775807) (hs : s.size ≤ 9223372036854775807) :
    Calls Trym.prog 3 #[.map m, .agg c1, .agg c2, .agg c3, .agg c4, .slice a5 len5 cap5, .string s] w fun e w' => e = .returned (.bool true) ∧ Below w.heap.size w w' := by
  have s1 := h1.1
  have s2 := h2.1
  have s3 := h3.1
  have s4 := h4.1
  have i1 : Hid ((Trym.prog.info? 23).map (·.size) = some c1.size) := by unfold Hid; rw [s1]; kernel_rfl
  have i2 : Hid ((Trym.prog.info? 24).map (·.size) = some c2.size) := by unfold Hid; rw [s2]; kernel_rfl
  have i3 : Hid ((Trym.prog.info? 23).map (·.size) = some c3.size) := by unfold Hid; rw [s3]; kernel_rfl
  have i4 : Hid ((Trym.prog.info? 25).map (·.size) = some c4.size) := by unfold Hid; rw [s4]; kernel_rfl
  have HL := hide hL
  have H1 := hide h1
  have H2 := hide h2
  have H3 := hide h3
  have H4 := hide h4
  have H5 := hide h5
  clear s1 s2 s3 s4 hL h1 h2 h3 h4 h5
  go_enter Trym.func3, Trym.ntmps3
  go_upto_region 1 with fail
  have hB := boxed w c1 c2 c3 c4
  generalize (((w.alloc (.cells c1 23)).alloc (.cells c2 24)).alloc (.cells c3 23)).alloc (.cells c4 25) = wB at hB ⊢
  have HB := hide hB
  clear hB
  have hml := (HL.out.2 wB HB.out.below).2.2
  by_cases e1 : 1048576 < len5
  · have d1 : (1048576 : Int) < (len5 : Int) := by omega
    go_wp2
    go_ret
    exact ⟨rfl, HB.out.below⟩
  have d1 : decide ((1048576 : Int) < (len5 : Int)) = false := by simp; omega
  by_cases e2 : 4096 < s.size
  · have d2 : (4096 : Int) < (s.size : Int) := by omega
    go_wp2
    go_ret
    exact ⟨rfl, HB.out.below⟩
  have d2 : decide ((4096 : Int) < (s.size : Int)) = false := by simp; omega
  by_cases e3 : 65536 < ml
  · go_wp2
    go_ret
    exact ⟨rfl, HB.out.below⟩
  have d3 : decide ((65536 : Int) < ml) = false := by simp; omega
  by_cases e4 : 1048576 < len5 + s.size
  · have d4 : (1048576 : Int) < (len5 : Int) + (s.size : Int) := by omega
    go_wp2
    go_ret
    exact ⟨rfl, HB.out.below⟩
  have d4 : decide ((1048576 : Int) < (len5 : Int) + (s.size : Int)) = false := by simp; omega
  go_upto_region 3 with fail
  clear hml d1 d2 d3 d4
  go_wp2_with fail
  refine (clone_any a5 len5 cap5 ys wB (by omega) (H5.out.later HB.out.below)).mono ?_
  rintro e wC ⟨ao, co, rfl, hO1, hB1⟩
  have O1 := hide hO1
  have B1 := hide hB1
  clear hO1 hB1
  go_wp2_with fail
  refine (clone_any ao len5 co ys wC (by omega) (cameIn_of H5.out.1 O1.out)).mono ?_
  rintro e wD ⟨bo, cb, rfl, hO2, hB2⟩
  have O2 := hide hO2
  have OD := hide (owns_below O1.out hB2)
  have BD := hide (B1.out.trans (hB2.mono B1.out.size))
  have BC := hide hB2
  clear hO2 hB2
  have BX := hide (box_in HB.out BD.out)
  go_wp2_with (first
    | (refine wpList_load_row rfl 23 (.tmp 8) rfl w.heap.size rfl 23 c1 (0, 0) _ BX.out.1 Trym.underlying23 rfl i1.out ?_)
    | (refine wpList_load_row rfl 24 (.tmp 9) rfl (w.heap.size + 1) rfl 24 c2 (0, 0) _ BX.out.2.1 Trym.underlying24 rfl i2.out ?_)
    | (refine wpList_load_row rfl 23 (.tmp 10) rfl (w.heap.size + 1 + 1) rfl 23 c3 (0, 0) _ BX.out.2.2.1 Trym.underlying23 rfl i3.out ?_)
    | (refine wpList_load_row rfl 25 (.tmp 11) rfl (w.heap.size + 1 + 1 + 1) rfl 25 c4 (0, 0) _ BX.out.2.2.2 Trym.underlying25 rfl i4.out ?_))
  refine (thai_any m c1 c2 c3 c4 wt mv ad sw ao len5 co ys s lv lo wB.heap.size wD H1.out H2.out H3.out H4.out (by omega) (by omega) H5.out.1 OD.out BD.out.size HL.out.1
    (look_in HL.out (HB.out.all BD.out) (fun k hk => Nat.le_trans HB.out.below.size (owns_base OD.out hk)))).mono ?_
  rintro e wE ⟨v1, rfl, hO3, hG3, hl3⟩
  obtain ⟨k, HKk⟩ : ∃ k, Hid ((runes s).length = k) := ⟨_, rfl⟩
  have hkl := runes_len s
  rw [HKk.out] at hkl
  obtain ⟨R, HR⟩ : ∃ R, Hid (rewr (tb wt mv ad sw) (runes s).length ((runes s).map (setb lv lo)) 0 (runes s).length 0 = R) := ⟨_, rfl⟩
  have HRl : Hid (R.length = k) := by unfold Hid; rw [← HR.out, rewr_len _ _ _ _ _ _ (by simp), List.length_map, HKk.out]
  rw [HKk.out] at hO3 HR
  rw [HR.out] at hO3
  obtain ⟨a1, cp1, rfl⟩ := owns_shape hO3
  have O3 := hide hO3
  have OB := hide (owns_grown O2.out hG3 (fun q hq e => by have h1 := owns_base O2.out hq; have h2 := owns_lt O1.out e; omega))
  have BE := hide (BD.out.grown hG3 BD.out.size (fun q hq => owns_base OD.out hq))
  clear hO3 hG3 hl3 BX
  have BX := box_in HB.out BE.out
  have TB : Hid (Tabs wE w.heap.size (w.heap.size + 1) (w.heap.size + 1 + 1) (w.heap.size + 1 + 1 + 1) (tb wt mv ad sw)) :=
    ⟨fun i hi => cell_of BX.1 (H1.out.2.1 i hi), fun i hi => cell_of BX.2.1 (H2.out.2 i hi), fun i hi => cell_of BX.2.2.1 (H3.out.2.1 i hi), fun i hi => cell_of BX.2.2.2 (H4.out.2 i hi)⟩
  clear BX
  go_wp2_with fail
  refine (model_any m w.heap.size (w.heap.size + 1) (w.heap.size + 1 + 1) (w.heap.size + 1 + 1 + 1) (tb wt mv ad sw) s lv lo wE TB.out (by omega) HL.out.1 H1.out.2.2 H3.out.2.2
    (fun wx hx => ⟨(HL.out.2 wx ((HB.out.all BE.out).trans (hx.mono (HB.out.all BE.out).size))).1, (HL.out.2 wx ((HB.out.all BE.out).trans (hx.mono (HB.out.all BE.out).size))).2.1⟩)).mono ?_
  rintro e wF ⟨v2, rfl, hO4, BEF⟩
  rw [HKk.out, HR.out] at hO4
  obtain ⟨a2, cp2, rfl⟩ := owns_shape hO4
  have BF := hide (BE.out.trans (BEF.mono BE.out.size))
  have P1 : Hid (∀ wr, Below wF.heap.size wF wr → 0 < len5 + k → ∃ g, a1 = some ⟨g, 0, none⟩ ∧ ∀ j, j < len5 + k → wr.cell? ⟨g, j, none⟩ = some (.int .u8 ((ys ++ R).getD j 0))) := fun wr hb h0 =>
    owns_read (by rw [List.length_append, H5.out.1, HRl.out]) (owns_below (owns_below O3.out BEF) hb) h0
  have P2 : Hid (∀ wr, Below wF.heap.size wF wr → 0 < len5 → ∃ g, bo = some ⟨g, 0, none⟩ ∧ ∀ j, j < len5 → wr.cell? ⟨g, j, none⟩ = some (.int .u8 (ys.getD j 0))) := fun wr hb h0 =>
    owns_read H5.out.1 (owns_below (owns_below OB.out BEF) hb) h0
  have P3 : Hid (∀ wr, Below wF.heap.size wF wr → 0 < k → ∃ g, a2 = some ⟨g, 0, none⟩ ∧ ∀ j, j < k → wr.cell? ⟨g, j, none⟩ = some (.int .u8 (R.getD j 0))) := fun wr hb h0 =>
    owns_read HRl.out (owns_below hO4 hb) h0
  have D1 : Hid (∀ j, j < len5 → (ys ++ R).getD j 0 = ys.getD j 0) := fun j hj => by
    rw [List.getD_eq_getElem?_getD, List.getD_eq_getElem?_getD, List.getElem?_append_left (by rw [H5.out.1]; exact hj)]
  have D2 : Hid (∀ j, (ys ++ R).getD (len5 + j) 0 = R.getD j 0) := fun j => by
    rw [List.getD_eq_getElem?_getD, List.getD_eq_getElem?_getD, List.getElem?_append_right (by rw [H5.out.1]; omega), H5.out.1, Nat.add_sub_cancel_left]
  have BA : Hid (∀ wr, Below wF.heap.size wF wr → Below w.heap.size w wr) := fun wr hb => HB.out.all (BF.out.trans (hb.mono BF.out.size))
  clear hO4 BEF TB O1 O2 O3 OB OD BC B1 BD BE BF HL H1 H2 H3 H4 i1 i2 i3 i4 HR HRl H5 HB
  go_wp2
  go_loopw [18] (fun v wx => ∃ i : Nat, i ≤ len5 ∧ v = .int .i64 i ∧ Below wF.heap.size wF wx) (fun v _ => len5 - (intOf v).toNat)
  case atStart => exact ⟨0, Nat.zero_le _, rfl, Below.refl _ _⟩
  case round =>
    obtain ⟨i, hi, rfl, hb⟩ := hrel
    have BR := hide hb
    clear hb
    by_cases hlt : i < len5
    · have d0 : decide ((i : Int) < (len5 : Int)) = true := by simp; omega
      obtain ⟨g1, rfl, r1⟩ := P1.out _ BR.out (by omega)
      obtain ⟨g2, rfl, r2⟩ := P2.out _ BR.out (by omega)
      have q1 := r1 i (by omega)
      have q2 := r2 i hlt
      rw [D1.out i hlt] at q1
      have dk : (i : Int) < (len5 : Int) + (k : Int) := by omega
      obtain ⟨y, HY⟩ : ∃ y, Hid (ys.getD i 0 = y) := ⟨_, rfl⟩
      rw [HY.out] at q1 q2
      clear r1 r2
      go_wp2_with fail
      go_quiet (fail)
      go_wp2
      go_roundw
      case rel => exact ⟨i + 1, by omega, by go_num, below_drewN BR.out _⟩
      case measure => simp [intOf]; omega
    · have d0 : decide ((i : Int) < (len5 : Int)) = false := by simp; omega
      go_wp2
      go_loopw [19] (fun v wx => ∃ i : Nat, i ≤ k ∧ v = .int .i64 i ∧ Below wF.heap.size wF wx) (fun v _ => k - (intOf v).toNat)
      case atStart => exact ⟨0, Nat.zero_le _, rfl, BR.out⟩
      case round =>
        obtain ⟨j, hj, rfl, hb⟩ := hrel
        have BS := hide hb
        clear hb
        by_cases hlt : j < k
        · have d0 : decide ((j : Int) < (k : Int)) = true := by simp; omega
          obtain ⟨g1, rfl, r1⟩ := P1.out _ BS.out (by omega)
          obtain ⟨g2, rfl, r2⟩ := P3.out _ BS.out (by omega)
          have q1 := r1 (len5 + j) (by omega)
          have q2 := r2 j hlt
          rw [D2.out j] at q1
          have dk : (j : Int) < (k : Int) := by omega
          obtain ⟨y, HY⟩ : ∃ y, Hid (R.getD j 0 = y) := ⟨_, rfl⟩
          rw [HY.out] at q1 q2
          clear r1 r2
          go_wp2_with fail
          go_quiet (fail)
          go_wp2
          go_roundw
          case rel => exact ⟨j + 1, by omega, by go_num, below_drewN BS.out _⟩
          case measure => simp [intOf]; omega
        · have d0 : decide ((j : Int) < (k : Int)) = false := by simp; omega
          go_wp2
          go_ret
          exact ⟨rfl, BA.out _ BS.out⟩
end Go.Proofs.Qxb6602158aMods
