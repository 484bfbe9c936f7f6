/-
  buildParent: for. (Written by wip/gen/build.py.)
-/
import Derived.Test.Qxb6003857aGreatMake
import Derived.Test.Qxb6003857aGreatEachA
import Derived.Test.Qxb6003857aGreatEachC
import Derived.Test.Qxb6003857aGreatEachE

namespace Go.Proofs.Qxb6003857aGreat
open Go.RowKit

set_option maxHeartbeats 8000000 in
set_option maxRecDepth 100000 in
theorem build6 {w1 w : World} {G E len : Nat} {a : Option Addr} {d : Nat → Nat} {base : Int} (f : Int) (n : Nat) (hn : n ≤ 8) (h : Bld w1 G E a len d w 0 base []) :
    Calls Tryz.prog 6 #[.int .u8 6, .int .u32 f, .int .i64 n, .pointer (some ⟨G, 0, none⟩), .pointer (some ⟨E, 0, none⟩)] w fun e w' => ∃ node, e = .returned node ∧ Built w1 G E a len d node w' := by
  have HB0 := hide h
  clear h
  go_enter Tryz.func6, Tryz.ntmps6
  go_wp2_with fail
  refine (bnext HB0.out (by omega)).mono ?_
  rintro e x1 ⟨q1, rfl, hq1, hB1, hS1⟩
  have HB_2 := hide hB1
  have hSz_2 := hS1.size
  clear hB1 hS1 hSz_2
  clear hq1
  go_wp2_with fail
  refine (bit_int f (0) _ (by omega) (by omega)).mono ?_
  rintro e y3 ⟨t3, rfl, rfl⟩
  cases t3 with
  | false =>
    go_wp2_with fail
    refine (bit_int f (1) _ (by omega) (by omega)).mono ?_
    rintro e y4 ⟨t4, rfl, rfl⟩
    cases t4 with
    | false =>
      obtain ⟨i0, hi0, hz0, hz1, hz2⟩ := info_parts info45
      go_wp2
      obtain ⟨W0, hW0⟩ : ∃ W0 : World, W0 = x1 := ⟨_, rfl⟩
      go_loopw [42, 43] (fun v i wr => ∃ (k : Nat) (vs : List Value) (ps : List Int) (ii : Nat) (cc : Int), k ≤ n ∧ i = .int .i64 k ∧ vs.length = k ∧ ii ≤ 20 + 10 * k ∧ Bld w1 G E a len d wr ii cc ([] ++ ps) ∧ ps.length ≤ k ∧ wr.ownsRow w1.heap.size 45 1 v vs.length vs ∧ Kids wr vs ps ∧ Keep W0 wr) (fun _ i _ => n - (intOf i).toNat)
      case atStart => exact ⟨0, [], [], 1, _, Nat.zero_le _, rfl, rfl, by omega, by have := HB_2.out; simpa using this, by simp, World.ownsRow_nil _ _ _ _, kids_nil _, by rw [hW0]; exact Keep.refl _⟩
      case round =>
        obtain ⟨k, vs, ps, ii, cc, hk, rfl, hvs, hii, hB, hps, hown, hK, hKp⟩ := hrel
        have HBr := hide hB
        have HO_r := hide hown
        have HK_r := hide hK
        have HKp := hide hKp
        have HV := hide hvs
        clear hB hown hK hKp hvs
        have hvl : vs.length ≤ 8 := by have := HV.out; omega
        by_cases hlt : k < n
        · have HC_r := hide (Keep.refl wr)
          have hlti : (k : Int) < (n : Int) := by omega
          go_wp2_with fail
          refine (expr_any HBr.out (by omega) (by simp; try omega)).mono ?_
          rintro e x1005 ⟨b1005, rfl, p1005, c1005, hB1005, hS1005, hP1005⟩
          have HB_1006 := hide hB1005
          have HK_1007 := hide (Kids.keep HK_r.out hS1005.keep)
          clear HK_r
          have HC_1008 := hide (Keep2.keep HC_r.out hS1005.keep)
          clear HC_r
          have HO_1009 := hide (own_stay HO_r.out hS1005 (by decide) (by decide) (by decide))
          clear HO_r
          have hSz_1006 := hS1005.size
          clear hB1005 hS1005 hSz_1006
          have HP_1010 := hide hP1005
          clear hP1005
          go_wp2_with (at_builtin; go_must (refine wpList_append_lies _ rfl (.tmp 265) (.tmp 269) 58 rfl w1.heap.size 45 i0 .nilIface 1 16 Tryz.underlying58 hi0 hz0 hz1 hz2 rfl (by decide) u42 vs.length vs rfl (by exact World.ownsRow.alloc HO_1009.out _) ⟨x1005.heap.size, 0, none⟩ 1 1 [.iface 177 (.pointer (some ⟨b1005, 0, none⟩))] rfl (by simp) (by exact cell_one_new _ _ _) (by simp [Value.oneCell']) (by omega) (by unfold maxLen; omega) (by omega) (by have := (Bld.below HB_1006.out).size; simp; omega) _ rfl ?_; intro g2 cap2 z2 hown2 hgrow2 hat2 hlt2))
          have hg := Bld.grow HB_1006.out HO_1009.out hgrow2 (by decide) (by unfold NodeTag; decide)
          go_roundw
          case rel => exact ⟨k + 1, vs ++ [.iface 177 (.pointer (some ⟨b1005, 0, none⟩))], ps ++ [p1005], ii + 2, _, by omega, by go_num, by simp [HV.out], by omega, by have := hg.1; simpa using this, by first | (simp; done) | (simp; omega), by simpa using hown2, Kids.snoc (Kids.keep HK_1007.out hg.2) (PosIs.keep HP_1010.out hg.2), HKp.out.trans (Keep.trans HC_1008.out hg.2)⟩
          case measure => simp [intOf]; omega
        · have hlti : ¬ (k : Int) < (n : Int) := by omega
          obtain ⟨sa, sn, sc, rfl⟩ : ∃ sa sn sc, u42 = .slice sa sn sc := own_form HO_r.out
          go_wp2_with fail
          refine (body_any HBr.out (by omega) (by simp; try omega)).mono ?_
          rintro e x2005 ⟨b2005, rfl, p2005, c2005, hB2005, hS2005, hP2005⟩
          have HB_2006 := hide hB2005
          have HK_2007 := hide (Kids.keep HK_r.out hS2005.keep)
          clear HK_r
          have HO_2008 := hide (own_stay HO_r.out hS2005 (by decide) (by decide) (by decide))
          clear HO_r
          have hSz_2006 := hS2005.size
          clear hB2005 hS2005 hSz_2006
          have HP_2009 := hide hP2005
          clear hP2005
          go_wp2
          go_ret
          exact ⟨_, rfl, _, _, _, Bld.alloc HB_2006.out _, by simp; omega, by simpa using each_for _ (new_block _ _ _) (PosIs.keep HP_2009.out (keep_alloc _ _)) (rowOf (World.ownsRow.alloc HO_2008.out _) rfl) (Kids.keep HK_2007.out (keep_alloc _ _)) (by have := HV.out; omega)⟩
    | true =>
      go_wp2_with fail
      refine (expr_any HB_2.out (by omega) (by simp; try omega)).mono ?_
      rintro e x5 ⟨b5, rfl, p5, c5, hB5, hS5, hP5⟩
      have HB_6 := hide hB5
      have hSz_6 := hS5.size
      clear hB5 hS5 hSz_6
      have HP_7 := hide hP5
      clear hP5
      obtain ⟨i0, hi0, hz0, hz1, hz2⟩ := info_parts info45
      go_wp2
      obtain ⟨W0, hW0⟩ : ∃ W0 : World, W0 = x5 := ⟨_, rfl⟩
      go_loopw [42, 43] (fun v i wr => ∃ (k : Nat) (vs : List Value) (ps : List Int) (ii : Nat) (cc : Int), k ≤ n ∧ i = .int .i64 k ∧ vs.length = k ∧ ii ≤ 20 + 10 * k ∧ Bld w1 G E a len d wr ii cc ([p5] ++ ps) ∧ ps.length ≤ k ∧ wr.ownsRow w1.heap.size 45 1 v vs.length vs ∧ Kids wr vs ps ∧ Keep W0 wr) (fun _ i _ => n - (intOf i).toNat)
      case atStart => exact ⟨0, [], [], 3, _, Nat.zero_le _, rfl, rfl, by omega, by have := HB_6.out; simpa using this, by simp, World.ownsRow_nil _ _ _ _, kids_nil _, by rw [hW0]; exact Keep.refl _⟩
      case round =>
        obtain ⟨k, vs, ps, ii, cc, hk, rfl, hvs, hii, hB, hps, hown, hK, hKp⟩ := hrel
        have HBr := hide hB
        have HO_r := hide hown
        have HK_r := hide hK
        have HKp := hide hKp
        have HV := hide hvs
        have HP_7r := hide (PosIs.keep HP_7.out (hW0 ▸ HKp.out))
        clear hB hown hK hKp hvs
        have hvl : vs.length ≤ 8 := by have := HV.out; omega
        by_cases hlt : k < n
        · have HC_r := hide (Keep.refl wr)
          have hlti : (k : Int) < (n : Int) := by omega
          go_wp2_with fail
          refine (expr_any HBr.out (by omega) (by simp; try omega)).mono ?_
          rintro e x1008 ⟨b1008, rfl, p1008, c1008, hB1008, hS1008, hP1008⟩
          have HB_1009 := hide hB1008
          have HK_1010 := hide (Kids.keep HK_r.out hS1008.keep)
          clear HK_r
          have HC_1011 := hide (Keep2.keep HC_r.out hS1008.keep)
          clear HC_r
          have HO_1012 := hide (own_stay HO_r.out hS1008 (by decide) (by decide) (by decide))
          clear HO_r
          have hSz_1009 := hS1008.size
          clear hB1008 hS1008 hSz_1009
          have HP_1013 := hide hP1008
          clear hP1008
          go_wp2_with (at_builtin; go_must (refine wpList_append_lies _ rfl (.tmp 265) (.tmp 269) 58 rfl w1.heap.size 45 i0 .nilIface 1 16 Tryz.underlying58 hi0 hz0 hz1 hz2 rfl (by decide) u42 vs.length vs rfl (by exact World.ownsRow.alloc HO_1012.out _) ⟨x1008.heap.size, 0, none⟩ 1 1 [.iface 177 (.pointer (some ⟨b1008, 0, none⟩))] rfl (by simp) (by exact cell_one_new _ _ _) (by simp [Value.oneCell']) (by omega) (by unfold maxLen; omega) (by omega) (by have := (Bld.below HB_1009.out).size; simp; omega) _ rfl ?_; intro g2 cap2 z2 hown2 hgrow2 hat2 hlt2))
          have hg := Bld.grow HB_1009.out HO_1012.out hgrow2 (by decide) (by unfold NodeTag; decide)
          go_roundw
          case rel => exact ⟨k + 1, vs ++ [.iface 177 (.pointer (some ⟨b1008, 0, none⟩))], ps ++ [p1008], ii + 2, _, by omega, by go_num, by simp [HV.out], by omega, by have := hg.1; simpa using this, by first | (simp; done) | (simp; omega), by simpa using hown2, Kids.snoc (Kids.keep HK_1010.out hg.2) (PosIs.keep HP_1013.out hg.2), HKp.out.trans (Keep.trans HC_1011.out hg.2)⟩
          case measure => simp [intOf]; omega
        · have hlti : ¬ (k : Int) < (n : Int) := by omega
          obtain ⟨sa, sn, sc, rfl⟩ : ∃ sa sn sc, u42 = .slice sa sn sc := own_form HO_r.out
          go_wp2_with fail
          refine (body_any HBr.out (by omega) (by simp; try omega)).mono ?_
          rintro e x2008 ⟨b2008, rfl, p2008, c2008, hB2008, hS2008, hP2008⟩
          have HB_2009 := hide hB2008
          have HP_2010 := hide (PosIs.keep HP_7r.out hS2008.keep)
          clear HP_7r
          have HK_2011 := hide (Kids.keep HK_r.out hS2008.keep)
          clear HK_r
          have HO_2012 := hide (own_stay HO_r.out hS2008 (by decide) (by decide) (by decide))
          clear HO_r
          have hSz_2009 := hS2008.size
          clear hB2008 hS2008 hSz_2009
          have HP_2013 := hide hP2008
          clear hP2008
          go_wp2
          go_ret
          exact ⟨_, rfl, _, _, _, Bld.alloc HB_2009.out _, by simp; omega, by simpa using each_forC _ (new_block _ _ _) (PosIs.keep HP_2013.out (keep_alloc _ _)) (PosIs.keep HP_2010.out (keep_alloc _ _)) (rowOf (World.ownsRow.alloc HO_2012.out _) rfl) (Kids.keep HK_2011.out (keep_alloc _ _)) (by have := HV.out; omega)⟩
  | true =>
    go_wp2_with fail
    refine (bvisit HB_2.out (by omega) (by simp; try omega)).mono ?_
    rintro e x4 ⟨p4, rfl, hB4, hS4⟩
    have HB_5 := hide hB4
    have hSz_5 := hS4.size
    clear hB4 hS4 hSz_5
    go_wp2_with fail
    refine (bnext HB_5.out (by omega)).mono ?_
    rintro e x6 ⟨q6, rfl, hq6, hB6, hS6⟩
    have HB_7 := hide hB6
    have hSz_7 := hS6.size
    clear hB6 hS6 hSz_7
    clear hq6
    go_wp2_with fail
    refine (ident_at (q6) _).mono ?_
    rintro e y8 ⟨bi8, rfl, hid8, hst8, hbl8⟩
    have HB_9 := hide (hbl8 HB_7.out)
    have HI_10 := hide hid8
    clear hid8 hst8 hbl8
    go_wp2_with fail
    refine (bnext HB_9.out (by omega)).mono ?_
    rintro e x11 ⟨q11, rfl, hq11, hB11, hS11⟩
    have HB_12 := hide hB11
    have HI_13 := hide (IdentAt.keep HI_10.out hS11.keep)
    clear HI_10
    have hSz_12 := hS11.size
    clear hB11 hS11 hSz_12
    clear hq11
    go_wp2_with fail
    refine (ident_at (q11) _).mono ?_
    rintro e y14 ⟨bi14, rfl, hid14, hst14, hbl14⟩
    have HB_15 := hide (hbl14 HB_12.out)
    have HI_16 := hide (IdentAt.keep HI_13.out hst14.keep)
    clear HI_13
    have HI_17 := hide hid14
    clear hid14 hst14 hbl14
    go_wp2_with fail
    refine (bit_int f (1) _ (by omega) (by omega)).mono ?_
    rintro e y18 ⟨t18, rfl, hy18⟩
    have HB_19 := hide (hy18 ▸ Bld.alloc (Bld.alloc (Bld.alloc HB_15.out _) _) _)
    have HP_19 : Hid (PosIs y18 (.iface 79 (.pointer (some ⟨y14.heap.size + 1 + 1, 0, none⟩))) p4) := hide (hy18 ▸ pos_new _ 79 82 _ _ p4 (by decide) rfl (by simp))
    clear hy18
    cases t18 with
    | false =>
      obtain ⟨i0, hi0, hz0, hz1, hz2⟩ := info_parts info45
      go_wp2
      obtain ⟨W0, hW0⟩ : ∃ W0 : World, W0 = y18 := ⟨_, rfl⟩
      go_loopw [42, 43] (fun v i wr => ∃ (k : Nat) (vs : List Value) (ps : List Int) (ii : Nat) (cc : Int), k ≤ n ∧ i = .int .i64 k ∧ vs.length = k ∧ ii ≤ 20 + 10 * k ∧ Bld w1 G E a len d wr ii cc ([p4] ++ ps) ∧ ps.length ≤ k ∧ wr.ownsRow w1.heap.size 45 1 v vs.length vs ∧ Kids wr vs ps ∧ Keep W0 wr) (fun _ i _ => n - (intOf i).toNat)
      case atStart => exact ⟨0, [], [], 4, _, Nat.zero_le _, rfl, rfl, by omega, by have := HB_19.out; simpa using this, by simp, World.ownsRow_nil _ _ _ _, kids_nil _, by rw [hW0]; exact Keep.refl _⟩
      case round =>
        obtain ⟨k, vs, ps, ii, cc, hk, rfl, hvs, hii, hB, hps, hown, hK, hKp⟩ := hrel
        have HBr := hide hB
        have HO_r := hide hown
        have HK_r := hide hK
        have HKp := hide hKp
        have HV := hide hvs
        have HP_19r := hide (PosIs.keep HP_19.out (hW0 ▸ HKp.out))
        clear hB hown hK hKp hvs
        have hvl : vs.length ≤ 8 := by have := HV.out; omega
        by_cases hlt : k < n
        · have HC_r := hide (Keep.refl wr)
          have hlti : (k : Int) < (n : Int) := by omega
          go_wp2_with fail
          refine (expr_any HBr.out (by omega) (by simp; try omega)).mono ?_
          rintro e x1020 ⟨b1020, rfl, p1020, c1020, hB1020, hS1020, hP1020⟩
          have HB_1021 := hide hB1020
          have HK_1022 := hide (Kids.keep HK_r.out hS1020.keep)
          clear HK_r
          have HC_1023 := hide (Keep2.keep HC_r.out hS1020.keep)
          clear HC_r
          have HO_1024 := hide (own_stay HO_r.out hS1020 (by decide) (by decide) (by decide))
          clear HO_r
          have hSz_1021 := hS1020.size
          clear hB1020 hS1020 hSz_1021
          have HP_1025 := hide hP1020
          clear hP1020
          go_wp2_with (at_builtin; go_must (refine wpList_append_lies _ rfl (.tmp 265) (.tmp 269) 58 rfl w1.heap.size 45 i0 .nilIface 1 16 Tryz.underlying58 hi0 hz0 hz1 hz2 rfl (by decide) u42 vs.length vs rfl (by exact World.ownsRow.alloc HO_1024.out _) ⟨x1020.heap.size, 0, none⟩ 1 1 [.iface 177 (.pointer (some ⟨b1020, 0, none⟩))] rfl (by simp) (by exact cell_one_new _ _ _) (by simp [Value.oneCell']) (by omega) (by unfold maxLen; omega) (by omega) (by have := (Bld.below HB_1021.out).size; simp; omega) _ rfl ?_; intro g2 cap2 z2 hown2 hgrow2 hat2 hlt2))
          have hg := Bld.grow HB_1021.out HO_1024.out hgrow2 (by decide) (by unfold NodeTag; decide)
          go_roundw
          case rel => exact ⟨k + 1, vs ++ [.iface 177 (.pointer (some ⟨b1020, 0, none⟩))], ps ++ [p1020], ii + 2, _, by omega, by go_num, by simp [HV.out], by omega, by have := hg.1; simpa using this, by first | (simp; done) | (simp; omega), by simpa using hown2, Kids.snoc (Kids.keep HK_1022.out hg.2) (PosIs.keep HP_1025.out hg.2), HKp.out.trans (Keep.trans HC_1023.out hg.2)⟩
          case measure => simp [intOf]; omega
        · have hlti : ¬ (k : Int) < (n : Int) := by omega
          obtain ⟨sa, sn, sc, rfl⟩ : ∃ sa sn sc, u42 = .slice sa sn sc := own_form HO_r.out
          go_wp2_with fail
          refine (body_any HBr.out (by omega) (by simp; try omega)).mono ?_
          rintro e x2020 ⟨b2020, rfl, p2020, c2020, hB2020, hS2020, hP2020⟩
          have HB_2021 := hide hB2020
          have HP_2022 := hide (PosIs.keep HP_19r.out hS2020.keep)
          clear HP_19r
          have HK_2023 := hide (Kids.keep HK_r.out hS2020.keep)
          clear HK_r
          have HO_2024 := hide (own_stay HO_r.out hS2020 (by decide) (by decide) (by decide))
          clear HO_r
          have hSz_2021 := hS2020.size
          clear hB2020 hS2020 hSz_2021
          have HP_2025 := hide hP2020
          clear hP2020
          go_wp2
          go_ret
          exact ⟨_, rfl, _, _, _, Bld.alloc HB_2021.out _, by simp; omega, by simpa using each_forI _ (new_block _ _ _) (PosIs.keep HP_2025.out (keep_alloc _ _)) (PosIs.keep HP_2022.out (keep_alloc _ _)) (rowOf (World.ownsRow.alloc HO_2024.out _) rfl) (Kids.keep HK_2023.out (keep_alloc _ _)) (by have := HV.out; omega)⟩
    | true =>
      go_wp2_with fail
      refine (expr_any HB_19.out (by omega) (by simp; try omega)).mono ?_
      rintro e x20 ⟨b20, rfl, p20, c20, hB20, hS20, hP20⟩
      have HB_21 := hide hB20
      have HP_22 := hide (PosIs.keep HP_19.out hS20.keep)
      clear HP_19
      have hSz_21 := hS20.size
      clear hB20 hS20 hSz_21
      have HP_23 := hide hP20
      clear hP20
      obtain ⟨i0, hi0, hz0, hz1, hz2⟩ := info_parts info45
      go_wp2
      obtain ⟨W0, hW0⟩ : ∃ W0 : World, W0 = x20 := ⟨_, rfl⟩
      go_loopw [42, 43] (fun v i wr => ∃ (k : Nat) (vs : List Value) (ps : List Int) (ii : Nat) (cc : Int), k ≤ n ∧ i = .int .i64 k ∧ vs.length = k ∧ ii ≤ 20 + 10 * k ∧ Bld w1 G E a len d wr ii cc ([p4, p20] ++ ps) ∧ ps.length ≤ k ∧ wr.ownsRow w1.heap.size 45 1 v vs.length vs ∧ Kids wr vs ps ∧ Keep W0 wr) (fun _ i _ => n - (intOf i).toNat)
      case atStart => exact ⟨0, [], [], 6, _, Nat.zero_le _, rfl, rfl, by omega, by have := HB_21.out; simpa using this, by simp, World.ownsRow_nil _ _ _ _, kids_nil _, by rw [hW0]; exact Keep.refl _⟩
      case round =>
        obtain ⟨k, vs, ps, ii, cc, hk, rfl, hvs, hii, hB, hps, hown, hK, hKp⟩ := hrel
        have HBr := hide hB
        have HO_r := hide hown
        have HK_r := hide hK
        have HKp := hide hKp
        have HV := hide hvs
        have HP_22r := hide (PosIs.keep HP_22.out (hW0 ▸ HKp.out))
        have HP_23r := hide (PosIs.keep HP_23.out (hW0 ▸ HKp.out))
        clear hB hown hK hKp hvs
        have hvl : vs.length ≤ 8 := by have := HV.out; omega
        by_cases hlt : k < n
        · have HC_r := hide (Keep.refl wr)
          have hlti : (k : Int) < (n : Int) := by omega
          go_wp2_with fail
          refine (expr_any HBr.out (by omega) (by simp; try omega)).mono ?_
          rintro e x1024 ⟨b1024, rfl, p1024, c1024, hB1024, hS1024, hP1024⟩
          have HB_1025 := hide hB1024
          have HK_1026 := hide (Kids.keep HK_r.out hS1024.keep)
          clear HK_r
          have HC_1027 := hide (Keep2.keep HC_r.out hS1024.keep)
          clear HC_r
          have HO_1028 := hide (own_stay HO_r.out hS1024 (by decide) (by decide) (by decide))
          clear HO_r
          have hSz_1025 := hS1024.size
          clear hB1024 hS1024 hSz_1025
          have HP_1029 := hide hP1024
          clear hP1024
          go_wp2_with (at_builtin; go_must (refine wpList_append_lies _ rfl (.tmp 265) (.tmp 269) 58 rfl w1.heap.size 45 i0 .nilIface 1 16 Tryz.underlying58 hi0 hz0 hz1 hz2 rfl (by decide) u42 vs.length vs rfl (by exact World.ownsRow.alloc HO_1028.out _) ⟨x1024.heap.size, 0, none⟩ 1 1 [.iface 177 (.pointer (some ⟨b1024, 0, none⟩))] rfl (by simp) (by exact cell_one_new _ _ _) (by simp [Value.oneCell']) (by omega) (by unfold maxLen; omega) (by omega) (by have := (Bld.below HB_1025.out).size; simp; omega) _ rfl ?_; intro g2 cap2 z2 hown2 hgrow2 hat2 hlt2))
          have hg := Bld.grow HB_1025.out HO_1028.out hgrow2 (by decide) (by unfold NodeTag; decide)
          go_roundw
          case rel => exact ⟨k + 1, vs ++ [.iface 177 (.pointer (some ⟨b1024, 0, none⟩))], ps ++ [p1024], ii + 2, _, by omega, by go_num, by simp [HV.out], by omega, by have := hg.1; simpa using this, by first | (simp; done) | (simp; omega), by simpa using hown2, Kids.snoc (Kids.keep HK_1026.out hg.2) (PosIs.keep HP_1029.out hg.2), HKp.out.trans (Keep.trans HC_1027.out hg.2)⟩
          case measure => simp [intOf]; omega
        · have hlti : ¬ (k : Int) < (n : Int) := by omega
          obtain ⟨sa, sn, sc, rfl⟩ : ∃ sa sn sc, u42 = .slice sa sn sc := own_form HO_r.out
          go_wp2_with fail
          refine (body_any HBr.out (by omega) (by simp; try omega)).mono ?_
          rintro e x2024 ⟨b2024, rfl, p2024, c2024, hB2024, hS2024, hP2024⟩
          have HB_2025 := hide hB2024
          have HP_2026 := hide (PosIs.keep HP_22r.out hS2024.keep)
          clear HP_22r
          have HP_2027 := hide (PosIs.keep HP_23r.out hS2024.keep)
          clear HP_23r
          have HK_2028 := hide (Kids.keep HK_r.out hS2024.keep)
          clear HK_r
          have HO_2029 := hide (own_stay HO_r.out hS2024 (by decide) (by decide) (by decide))
          clear HO_r
          have hSz_2025 := hS2024.size
          clear hB2024 hS2024 hSz_2025
          have HP_2030 := hide hP2024
          clear hP2024
          go_wp2
          go_ret
          exact ⟨_, rfl, _, _, _, Bld.alloc HB_2025.out _, by simp; omega, by simpa using each_forIC _ (new_block _ _ _) (PosIs.keep HP_2030.out (keep_alloc _ _)) (PosIs.keep HP_2026.out (keep_alloc _ _)) (PosIs.keep HP_2027.out (keep_alloc _ _)) (rowOf (World.ownsRow.alloc HO_2029.out _) rfl) (Kids.keep HK_2028.out (keep_alloc _ _)) (by have := HV.out; omega)⟩

end Go.Proofs.Qxb6003857aGreat
