/-
  buildParent: function declaration. (Written by wip/gen/build.py.)
-/
import Derived.Test.Qxb6003857aGreatMake
import Derived.Test.Qxb6003857aGreatEachA
import Derived.Test.Qxb6003857aGreatEachC
import Derived.Test.Qxb6003857aGreatEachE

namespace Go.Proofs.Qxb6003857aGreat
open Go.RowKit

set_option maxHeartbeats 8000000 in
set_option maxRecDepth 100000 in
theorem build8 {w1 w : World} {G E len : Nat} {a : Option Addr} {d : Nat → Nat} {base : Int} (f : Int) (n : Nat) (hn : n ≤ 8) (h : Bld w1 G E a len d w 0 base []) :
    Calls Tryz.prog 6 #[.int .u8 8, .int .u32 f, .int .i64 n, .pointer (some ⟨G, 0, none⟩), .pointer (some ⟨E, 0, none⟩)] w fun e w' => ∃ node, e = .returned node ∧ Built w1 G E a len d node w' := by
  have HB0 := hide h
  clear h
  go_enter Tryz.func6, Tryz.ntmps6
  go_wp2_with fail
  refine (bnext HB0.out (by omega)).mono ?_
  rintro e x1 ⟨q1, rfl, hq1, hB1, hS1⟩
  have HB_2 := hide hB1
  have hSz_2 := hS1.size
  clear hB1 hS1 hSz_2
  clear hq1
  go_wp2_with fail
  refine (bit_int f (0) _ (by omega) (by omega)).mono ?_
  rintro e y3 ⟨t3, rfl, rfl⟩
  cases t3 with
  | false =>
    go_wp2_with fail
    refine (bnext HB_2.out (by omega)).mono ?_
    rintro e x4 ⟨q4, rfl, hq4, hB4, hS4⟩
    have HB_5 := hide hB4
    have hSz_5 := hS4.size
    clear hB4 hS4 hSz_5
    clear hq4
    go_wp2_with fail
    refine (ident_at (q4) _).mono ?_
    rintro e y6 ⟨bi6, rfl, hid6, hst6, hbl6⟩
    have HB_7 := hide (hbl6 HB_5.out)
    have HI_8 := hide hid6
    clear hid6 hst6 hbl6
    obtain ⟨i0, hi0, hz0, hz1, hz2⟩ := info_parts info89
    go_wp2
    obtain ⟨W0, hW0⟩ : ∃ W0 : World, W0 = y6 := ⟨_, rfl⟩
    go_loopw [54, 55] (fun v i wr => ∃ (k : Nat) (vs : List Value) (ps : List (Option Int)) (ii : Nat) (cc : Int), k ≤ n ∧ i = .int .i64 k ∧ vs.length = k ∧ ii ≤ 20 + 10 * k ∧ Bld w1 G E a len d wr ii cc ([] ++ places ps) ∧ ps.length ≤ k ∧ wr.ownsRow w1.heap.size 89 1 v vs.length vs ∧ Specs 92 6 wr vs ps ∧ Keep W0 wr) (fun _ i _ => n - (intOf i).toNat)
    case atStart => exact ⟨0, [], [], 2, _, Nat.zero_le _, rfl, rfl, by omega, by have := HB_7.out; simpa [places] using this, by simp, World.ownsRow_nil _ _ _ _, specs_nil _ _ _, by rw [hW0]; exact Keep.refl _⟩
    case round =>
      obtain ⟨k, vs, ps, ii, cc, hk, rfl, hvs, hii, hB, hps, hown, hK, hKp⟩ := hrel
      have HBr := hide hB
      have HO_r := hide hown
      have HK_r := hide hK
      have HKp := hide hKp
      have HV := hide hvs
      clear hB hown hK hKp hvs
      have hvl : vs.length ≤ 8 := by have := HV.out; omega
      have hpl : (places ps).length ≤ ps.length := List.length_filterMap_le _ _
      by_cases hlt : k < n
      · have HC_r := hide (Keep.refl wr)
        have hlti : (k : Int) < (n : Int) := by omega
        go_wp2_with fail
        refine (bit_int f ((k : Int) + 1) _ (by omega) (by omega)).mono ?_
        rintro e y1009 ⟨t1009, rfl, rfl⟩
        cases t1009 with
        | false =>
          go_wp2_with fail
          refine (bnext HBr.out (by omega)).mono ?_
          rintro e x1010 ⟨q1010, rfl, hq1010, hB1010, hS1010⟩
          have HB_1011 := hide hB1010
          have HK_1012 := hide (Specs92.keep HK_r.out hS1010.keep)
          clear HK_r
          have HC_1013 := hide (Keep2.keep HC_r.out hS1010.keep)
          clear HC_r
          have HO_1014 := hide (own_stay HO_r.out hS1010 (by decide) (by decide) (by decide))
          clear HO_r
          have hSz_1011 := hS1010.size
          clear hB1010 hS1010 hSz_1011
          clear hq1010
          go_wp2_with fail
          refine (ident_at (q1010) _).mono ?_
          rintro e y1015 ⟨bi1015, rfl, hid1015, hst1015, hbl1015⟩
          have HB_1016 := hide (hbl1015 HB_1011.out)
          have HK_1017 := hide (Specs92.keep HK_1012.out hst1015.keep)
          clear HK_1012
          have HC_1018 := hide (Keep2.keep HC_1013.out hst1015.keep)
          clear HC_1013
          have HO_1019 := hide (own_stay HO_1014.out hst1015 (by decide) (by decide) (by decide))
          clear HO_1014
          have HI_1020 := hide hid1015
          clear hid1015 hst1015 hbl1015
          go_wp2_with fail
          refine (bit_int f ((k : Int) + 10) _ (by omega) (by omega)).mono ?_
          rintro e y1021 ⟨t1021, rfl, rfl⟩
          cases t1021 with
          | false =>
            go_wp2_with (at_builtin; go_must (refine wpList_append_lies _ rfl (.tmp 360) (.tmp 366) 88 rfl w1.heap.size 89 i0 (.pointer none) 1 8 Tryz.underlying88 hi0 hz0 hz1 hz2 rfl (by decide) u54 vs.length vs rfl (by exact World.ownsRow.alloc (World.ownsRow.alloc HO_1019.out _) _) ⟨y1015.heap.size + 1, 0, none⟩ 1 1 [.pointer (some ⟨y1015.heap.size, 0, none⟩)] rfl (by simp) (by exact news_two _ _ _ _) (by simp [Value.oneCell']) (by omega) (by unfold maxLen; omega) (by omega) (by have := (Bld.below HB_1016.out).size; simp; omega) _ rfl ?_; intro g2 cap2 z2 hown2 hgrow2 hat2 hlt2))
            have hg := Bld.grow (Bld.alloc HB_1016.out _) (World.ownsRow.alloc HO_1019.out _) hgrow2 (by decide) (by unfold NodeTag; decide)
            go_roundw
            case rel => exact ⟨k + 1, vs ++ [.pointer (some ⟨y1015.heap.size, 0, none⟩)], ps ++ [none], ii + 1, _, by omega, by go_num, by simp [HV.out], by omega, by have := hg.1; simpa [places_snoc] using this, by first | (simp; done) | (simp; omega), by simpa using hown2, Specs.snoc (Specs92.keep HK_1017.out ((keep_alloc _ _).trans hg.2)) (SpecIs.keep (spec_new 92 6 _ _ _ none rfl (Or.inl ⟨rfl, rfl⟩)) (by unfold NodeTag; decide) hg.2), HKp.out.trans (Keep.trans HC_1018.out ((keep_alloc _ _).trans hg.2))⟩
            case measure => simp [intOf]; omega
          | true =>
            go_wp2_with fail
            refine (expr_any HB_1016.out (by omega) (by simp; try omega)).mono ?_
            rintro e x1022 ⟨b1022, rfl, p1022, c1022, hB1022, hS1022, hP1022⟩
            have HB_1023 := hide hB1022
            have HK_1024 := hide (Specs92.keep HK_1017.out hS1022.keep)
            clear HK_1017
            have HC_1025 := hide (Keep2.keep HC_1018.out hS1022.keep)
            clear HC_1018
            have HI_1026 := hide (IdentAt.keep HI_1020.out hS1022.keep)
            clear HI_1020
            have HO_1027 := hide (own_stay HO_1019.out hS1022 (by decide) (by decide) (by decide))
            clear HO_1019
            have hSz_1023 := hS1022.size
            clear hB1022 hS1022 hSz_1023
            have HP_1028 := hide hP1022
            clear hP1022
            go_wp2_with (at_builtin; go_must (refine wpList_append_lies _ rfl (.tmp 360) (.tmp 366) 88 rfl w1.heap.size 89 i0 (.pointer none) 1 8 Tryz.underlying88 hi0 hz0 hz1 hz2 rfl (by decide) u54 vs.length vs rfl (by exact World.ownsRow.alloc (World.ownsRow.alloc HO_1027.out _) _) ⟨x1022.heap.size + 1, 0, none⟩ 1 1 [.pointer (some ⟨x1022.heap.size, 0, none⟩)] rfl (by simp) (by exact news_two _ _ _ _) (by simp [Value.oneCell']) (by omega) (by unfold maxLen; omega) (by omega) (by have := (Bld.below HB_1023.out).size; simp; omega) _ rfl ?_; intro g2 cap2 z2 hown2 hgrow2 hat2 hlt2))
            have hg := Bld.grow (Bld.alloc HB_1023.out _) (World.ownsRow.alloc HO_1027.out _) hgrow2 (by decide) (by unfold NodeTag; decide)
            go_roundw
            case rel => exact ⟨k + 1, vs ++ [.pointer (some ⟨x1022.heap.size, 0, none⟩)], ps ++ [some p1022], ii + 3, _, by omega, by go_num, by simp [HV.out], by omega, by have := hg.1; simpa [places_snoc] using this, by first | (simp; done) | (simp; omega), by simpa using hown2, Specs.snoc (Specs92.keep HK_1024.out ((keep_alloc _ _).trans hg.2)) (SpecIs.keep (spec_new 92 6 _ _ _ (some p1022) rfl (Or.inr ⟨_, rfl, HP_1028.out⟩)) (by unfold NodeTag; decide) hg.2), HKp.out.trans (Keep.trans HC_1025.out ((keep_alloc _ _).trans hg.2))⟩
            case measure => simp [intOf]; omega
        | true =>
          go_wp2_with fail
          refine (bnext HBr.out (by omega)).mono ?_
          rintro e x1010 ⟨q1010, rfl, hq1010, hB1010, hS1010⟩
          have HB_1011 := hide hB1010
          have HK_1012 := hide (Specs92.keep HK_r.out hS1010.keep)
          clear HK_r
          have HC_1013 := hide (Keep2.keep HC_r.out hS1010.keep)
          clear HC_r
          have HO_1014 := hide (own_stay HO_r.out hS1010 (by decide) (by decide) (by decide))
          clear HO_r
          have hSz_1011 := hS1010.size
          clear hB1010 hS1010 hSz_1011
          clear hq1010
          go_wp2_with fail
          refine (named_at (q1010) _).mono ?_
          rintro e y1015 ⟨bn1015, rfl, hst1015, hbl1015⟩
          have HB_1016 := hide (hbl1015 HB_1011.out)
          have HK_1017 := hide (Specs92.keep HK_1012.out hst1015.keep)
          clear HK_1012
          have HC_1018 := hide (Keep2.keep HC_1013.out hst1015.keep)
          clear HC_1013
          have HO_1019 := hide (own_stay HO_1014.out hst1015 (by decide) (by decide) (by decide))
          clear HO_1014
          clear hst1015 hbl1015
          go_wp2_with fail
          refine (bnext HB_1016.out (by omega)).mono ?_
          rintro e x1020 ⟨q1020, rfl, hq1020, hB1020, hS1020⟩
          have HB_1021 := hide hB1020
          have HK_1022 := hide (Specs92.keep HK_1017.out hS1020.keep)
          clear HK_1017
          have HC_1023 := hide (Keep2.keep HC_1018.out hS1020.keep)
          clear HC_1018
          have HO_1024 := hide (own_stay HO_1019.out hS1020 (by decide) (by decide) (by decide))
          clear HO_1019
          have hSz_1021 := hS1020.size
          clear hB1020 hS1020 hSz_1021
          clear hq1020
          go_wp2_with fail
          refine (ident_at (q1020) _).mono ?_
          rintro e y1025 ⟨bi1025, rfl, hid1025, hst1025, hbl1025⟩
          have HB_1026 := hide (hbl1025 HB_1021.out)
          have HK_1027 := hide (Specs92.keep HK_1022.out hst1025.keep)
          clear HK_1022
          have HC_1028 := hide (Keep2.keep HC_1023.out hst1025.keep)
          clear HC_1023
          have HO_1029 := hide (own_stay HO_1024.out hst1025 (by decide) (by decide) (by decide))
          clear HO_1024
          have HI_1030 := hide hid1025
          clear hid1025 hst1025 hbl1025
          go_wp2_with fail
          refine (bit_int f ((k : Int) + 10) _ (by omega) (by omega)).mono ?_
          rintro e y1031 ⟨t1031, rfl, rfl⟩
          cases t1031 with
          | false =>
            go_wp2_with (at_builtin; go_must (refine wpList_append_lies _ rfl (.tmp 360) (.tmp 366) 88 rfl w1.heap.size 89 i0 (.pointer none) 1 8 Tryz.underlying88 hi0 hz0 hz1 hz2 rfl (by decide) u54 vs.length vs rfl (by exact World.ownsRow.alloc (World.ownsRow.alloc HO_1029.out _) _) ⟨y1025.heap.size + 1, 0, none⟩ 1 1 [.pointer (some ⟨y1025.heap.size, 0, none⟩)] rfl (by simp) (by exact news_two _ _ _ _) (by simp [Value.oneCell']) (by omega) (by unfold maxLen; omega) (by omega) (by have := (Bld.below HB_1026.out).size; simp; omega) _ rfl ?_; intro g2 cap2 z2 hown2 hgrow2 hat2 hlt2))
            have hg := Bld.grow (Bld.alloc HB_1026.out _) (World.ownsRow.alloc HO_1029.out _) hgrow2 (by decide) (by unfold NodeTag; decide)
            go_roundw
            case rel => exact ⟨k + 1, vs ++ [.pointer (some ⟨y1025.heap.size, 0, none⟩)], ps ++ [none], ii + 2, _, by omega, by go_num, by simp [HV.out], by omega, by have := hg.1; simpa [places_snoc] using this, by first | (simp; done) | (simp; omega), by simpa using hown2, Specs.snoc (Specs92.keep HK_1027.out ((keep_alloc _ _).trans hg.2)) (SpecIs.keep (spec_new 92 6 _ _ _ none rfl (Or.inl ⟨rfl, rfl⟩)) (by unfold NodeTag; decide) hg.2), HKp.out.trans (Keep.trans HC_1028.out ((keep_alloc _ _).trans hg.2))⟩
            case measure => simp [intOf]; omega
          | true =>
            go_wp2_with fail
            refine (expr_any HB_1026.out (by omega) (by simp; try omega)).mono ?_
            rintro e x1032 ⟨b1032, rfl, p1032, c1032, hB1032, hS1032, hP1032⟩
            have HB_1033 := hide hB1032
            have HK_1034 := hide (Specs92.keep HK_1027.out hS1032.keep)
            clear HK_1027
            have HC_1035 := hide (Keep2.keep HC_1028.out hS1032.keep)
            clear HC_1028
            have HI_1036 := hide (IdentAt.keep HI_1030.out hS1032.keep)
            clear HI_1030
            have HO_1037 := hide (own_stay HO_1029.out hS1032 (by decide) (by decide) (by decide))
            clear HO_1029
            have hSz_1033 := hS1032.size
            clear hB1032 hS1032 hSz_1033
            have HP_1038 := hide hP1032
            clear hP1032
            go_wp2_with (at_builtin; go_must (refine wpList_append_lies _ rfl (.tmp 360) (.tmp 366) 88 rfl w1.heap.size 89 i0 (.pointer none) 1 8 Tryz.underlying88 hi0 hz0 hz1 hz2 rfl (by decide) u54 vs.length vs rfl (by exact World.ownsRow.alloc (World.ownsRow.alloc HO_1037.out _) _) ⟨x1032.heap.size + 1, 0, none⟩ 1 1 [.pointer (some ⟨x1032.heap.size, 0, none⟩)] rfl (by simp) (by exact news_two _ _ _ _) (by simp [Value.oneCell']) (by omega) (by unfold maxLen; omega) (by omega) (by have := (Bld.below HB_1033.out).size; simp; omega) _ rfl ?_; intro g2 cap2 z2 hown2 hgrow2 hat2 hlt2))
            have hg := Bld.grow (Bld.alloc HB_1033.out _) (World.ownsRow.alloc HO_1037.out _) hgrow2 (by decide) (by unfold NodeTag; decide)
            go_roundw
            case rel => exact ⟨k + 1, vs ++ [.pointer (some ⟨x1032.heap.size, 0, none⟩)], ps ++ [some p1032], ii + 4, _, by omega, by go_num, by simp [HV.out], by omega, by have := hg.1; simpa [places_snoc] using this, by first | (simp; done) | (simp; omega), by simpa using hown2, Specs.snoc (Specs92.keep HK_1034.out ((keep_alloc _ _).trans hg.2)) (SpecIs.keep (spec_new 92 6 _ _ _ (some p1032) rfl (Or.inr ⟨_, rfl, HP_1038.out⟩)) (by unfold NodeTag; decide) hg.2), HKp.out.trans (Keep.trans HC_1035.out ((keep_alloc _ _).trans hg.2))⟩
            case measure => simp [intOf]; omega
      · have hlti : ¬ (k : Int) < (n : Int) := by omega
        obtain ⟨sa, sn, sc, rfl⟩ : ∃ sa sn sc, u54 = .slice sa sn sc := own_form HO_r.out
        go_wp2_with fail
        refine (bit_int f (20) _ (by omega) (by omega)).mono ?_
        rintro e y2009 ⟨t2009, rfl, rfl⟩
        cases t2009 with
        | false =>
          go_wp2
          go_ret
          exact ⟨_, rfl, _, _, _, Bld.alloc HBr.out _, by simp; omega, by simpa using each_fdecl _ (new_block _ _ _) (rowOf (World.ownsRow.alloc HO_r.out _) rfl) (Specs92.keep HK_r.out (keep_alloc _ _)) (by have := HV.out; omega)⟩
        | true =>
          go_wp2_with fail
          refine (body_any HBr.out (by omega) (by simp; try omega)).mono ?_
          rintro e x2010 ⟨b2010, rfl, p2010, c2010, hB2010, hS2010, hP2010⟩
          have HB_2011 := hide hB2010
          have HK_2012 := hide (Specs92.keep HK_r.out hS2010.keep)
          clear HK_r
          have HO_2013 := hide (own_stay HO_r.out hS2010 (by decide) (by decide) (by decide))
          clear HO_r
          have hSz_2011 := hS2010.size
          clear hB2010 hS2010 hSz_2011
          have HP_2014 := hide hP2010
          clear hP2010
          go_wp2
          go_ret
          exact ⟨_, rfl, _, _, _, Bld.alloc HB_2011.out _, by simp; omega, by simpa using each_fdeclbody _ (new_block _ _ _) (PosIs.keep HP_2014.out (keep_alloc _ _)) (rowOf (World.ownsRow.alloc HO_2013.out _) rfl) (Specs92.keep HK_2012.out (keep_alloc _ _)) (by have := HV.out; omega)⟩
  | true =>
    go_wp2_with fail
    refine (bnext HB_2.out (by omega)).mono ?_
    rintro e x4 ⟨q4, rfl, hq4, hB4, hS4⟩
    have HB_5 := hide hB4
    have hSz_5 := hS4.size
    clear hB4 hS4 hSz_5
    clear hq4
    go_wp2_with fail
    refine (named_at (q4) _).mono ?_
    rintro e y6 ⟨bn6, rfl, hst6, hbl6⟩
    have HB_7 := hide (hbl6 HB_5.out)
    clear hst6 hbl6
    go_wp2_with fail
    refine (bnext HB_7.out (by omega)).mono ?_
    rintro e x8 ⟨q8, rfl, hq8, hB8, hS8⟩
    have HB_9 := hide hB8
    have hSz_9 := hS8.size
    clear hB8 hS8 hSz_9
    clear hq8
    go_wp2_with fail
    refine (ident_at (q8) _).mono ?_
    rintro e y10 ⟨bi10, rfl, hid10, hst10, hbl10⟩
    have HB_11 := hide (hbl10 HB_9.out)
    have HI_12 := hide hid10
    clear hid10 hst10 hbl10
    obtain ⟨i0, hi0, hz0, hz1, hz2⟩ := info_parts info89
    go_wp2
    obtain ⟨W0, hW0⟩ : ∃ W0 : World, W0 = y10 := ⟨_, rfl⟩
    go_loopw [54, 55] (fun v i wr => ∃ (k : Nat) (vs : List Value) (ps : List (Option Int)) (ii : Nat) (cc : Int), k ≤ n ∧ i = .int .i64 k ∧ vs.length = k ∧ ii ≤ 20 + 10 * k ∧ Bld w1 G E a len d wr ii cc ([] ++ places ps) ∧ ps.length ≤ k ∧ wr.ownsRow w1.heap.size 89 1 v vs.length vs ∧ Specs 92 6 wr vs ps ∧ Keep W0 wr) (fun _ i _ => n - (intOf i).toNat)
    case atStart => exact ⟨0, [], [], 3, _, Nat.zero_le _, rfl, rfl, by omega, by have := HB_11.out; simpa [places] using this, by simp, World.ownsRow_nil _ _ _ _, specs_nil _ _ _, by rw [hW0]; exact Keep.refl _⟩
    case round =>
      obtain ⟨k, vs, ps, ii, cc, hk, rfl, hvs, hii, hB, hps, hown, hK, hKp⟩ := hrel
      have HBr := hide hB
      have HO_r := hide hown
      have HK_r := hide hK
      have HKp := hide hKp
      have HV := hide hvs
      clear hB hown hK hKp hvs
      have hvl : vs.length ≤ 8 := by have := HV.out; omega
      have hpl : (places ps).length ≤ ps.length := List.length_filterMap_le _ _
      by_cases hlt : k < n
      · have HC_r := hide (Keep.refl wr)
        have hlti : (k : Int) < (n : Int) := by omega
        go_wp2_with fail
        refine (bit_int f ((k : Int) + 1) _ (by omega) (by omega)).mono ?_
        rintro e y1013 ⟨t1013, rfl, rfl⟩
        cases t1013 with
        | false =>
          go_wp2_with fail
          refine (bnext HBr.out (by omega)).mono ?_
          rintro e x1014 ⟨q1014, rfl, hq1014, hB1014, hS1014⟩
          have HB_1015 := hide hB1014
          have HK_1016 := hide (Specs92.keep HK_r.out hS1014.keep)
          clear HK_r
          have HC_1017 := hide (Keep2.keep HC_r.out hS1014.keep)
          clear HC_r
          have HO_1018 := hide (own_stay HO_r.out hS1014 (by decide) (by decide) (by decide))
          clear HO_r
          have hSz_1015 := hS1014.size
          clear hB1014 hS1014 hSz_1015
          clear hq1014
          go_wp2_with fail
          refine (ident_at (q1014) _).mono ?_
          rintro e y1019 ⟨bi1019, rfl, hid1019, hst1019, hbl1019⟩
          have HB_1020 := hide (hbl1019 HB_1015.out)
          have HK_1021 := hide (Specs92.keep HK_1016.out hst1019.keep)
          clear HK_1016
          have HC_1022 := hide (Keep2.keep HC_1017.out hst1019.keep)
          clear HC_1017
          have HO_1023 := hide (own_stay HO_1018.out hst1019 (by decide) (by decide) (by decide))
          clear HO_1018
          have HI_1024 := hide hid1019
          clear hid1019 hst1019 hbl1019
          go_wp2_with fail
          refine (bit_int f ((k : Int) + 10) _ (by omega) (by omega)).mono ?_
          rintro e y1025 ⟨t1025, rfl, rfl⟩
          cases t1025 with
          | false =>
            go_wp2_with (at_builtin; go_must (refine wpList_append_lies _ rfl (.tmp 360) (.tmp 366) 88 rfl w1.heap.size 89 i0 (.pointer none) 1 8 Tryz.underlying88 hi0 hz0 hz1 hz2 rfl (by decide) u54 vs.length vs rfl (by exact World.ownsRow.alloc (World.ownsRow.alloc HO_1023.out _) _) ⟨y1019.heap.size + 1, 0, none⟩ 1 1 [.pointer (some ⟨y1019.heap.size, 0, none⟩)] rfl (by simp) (by exact news_two _ _ _ _) (by simp [Value.oneCell']) (by omega) (by unfold maxLen; omega) (by omega) (by have := (Bld.below HB_1020.out).size; simp; omega) _ rfl ?_; intro g2 cap2 z2 hown2 hgrow2 hat2 hlt2))
            have hg := Bld.grow (Bld.alloc HB_1020.out _) (World.ownsRow.alloc HO_1023.out _) hgrow2 (by decide) (by unfold NodeTag; decide)
            go_roundw
            case rel => exact ⟨k + 1, vs ++ [.pointer (some ⟨y1019.heap.size, 0, none⟩)], ps ++ [none], ii + 1, _, by omega, by go_num, by simp [HV.out], by omega, by have := hg.1; simpa [places_snoc] using this, by first | (simp; done) | (simp; omega), by simpa using hown2, Specs.snoc (Specs92.keep HK_1021.out ((keep_alloc _ _).trans hg.2)) (SpecIs.keep (spec_new 92 6 _ _ _ none rfl (Or.inl ⟨rfl, rfl⟩)) (by unfold NodeTag; decide) hg.2), HKp.out.trans (Keep.trans HC_1022.out ((keep_alloc _ _).trans hg.2))⟩
            case measure => simp [intOf]; omega
          | true =>
            go_wp2_with fail
            refine (expr_any HB_1020.out (by omega) (by simp; try omega)).mono ?_
            rintro e x1026 ⟨b1026, rfl, p1026, c1026, hB1026, hS1026, hP1026⟩
            have HB_1027 := hide hB1026
            have HK_1028 := hide (Specs92.keep HK_1021.out hS1026.keep)
            clear HK_1021
            have HC_1029 := hide (Keep2.keep HC_1022.out hS1026.keep)
            clear HC_1022
            have HI_1030 := hide (IdentAt.keep HI_1024.out hS1026.keep)
            clear HI_1024
            have HO_1031 := hide (own_stay HO_1023.out hS1026 (by decide) (by decide) (by decide))
            clear HO_1023
            have hSz_1027 := hS1026.size
            clear hB1026 hS1026 hSz_1027
            have HP_1032 := hide hP1026
            clear hP1026
            go_wp2_with (at_builtin; go_must (refine wpList_append_lies _ rfl (.tmp 360) (.tmp 366) 88 rfl w1.heap.size 89 i0 (.pointer none) 1 8 Tryz.underlying88 hi0 hz0 hz1 hz2 rfl (by decide) u54 vs.length vs rfl (by exact World.ownsRow.alloc (World.ownsRow.alloc HO_1031.out _) _) ⟨x1026.heap.size + 1, 0, none⟩ 1 1 [.pointer (some ⟨x1026.heap.size, 0, none⟩)] rfl (by simp) (by exact news_two _ _ _ _) (by simp [Value.oneCell']) (by omega) (by unfold maxLen; omega) (by omega) (by have := (Bld.below HB_1027.out).size; simp; omega) _ rfl ?_; intro g2 cap2 z2 hown2 hgrow2 hat2 hlt2))
            have hg := Bld.grow (Bld.alloc HB_1027.out _) (World.ownsRow.alloc HO_1031.out _) hgrow2 (by decide) (by unfold NodeTag; decide)
            go_roundw
            case rel => exact ⟨k + 1, vs ++ [.pointer (some ⟨x1026.heap.size, 0, none⟩)], ps ++ [some p1026], ii + 3, _, by omega, by go_num, by simp [HV.out], by omega, by have := hg.1; simpa [places_snoc] using this, by first | (simp; done) | (simp; omega), by simpa using hown2, Specs.snoc (Specs92.keep HK_1028.out ((keep_alloc _ _).trans hg.2)) (SpecIs.keep (spec_new 92 6 _ _ _ (some p1026) rfl (Or.inr ⟨_, rfl, HP_1032.out⟩)) (by unfold NodeTag; decide) hg.2), HKp.out.trans (Keep.trans HC_1029.out ((keep_alloc _ _).trans hg.2))⟩
            case measure => simp [intOf]; omega
        | true =>
          go_wp2_with fail
          refine (bnext HBr.out (by omega)).mono ?_
          rintro e x1014 ⟨q1014, rfl, hq1014, hB1014, hS1014⟩
          have HB_1015 := hide hB1014
          have HK_1016 := hide (Specs92.keep HK_r.out hS1014.keep)
          clear HK_r
          have HC_1017 := hide (Keep2.keep HC_r.out hS1014.keep)
          clear HC_r
          have HO_1018 := hide (own_stay HO_r.out hS1014 (by decide) (by decide) (by decide))
          clear HO_r
          have hSz_1015 := hS1014.size
          clear hB1014 hS1014 hSz_1015
          clear hq1014
          go_wp2_with fail
          refine (named_at (q1014) _).mono ?_
          rintro e y1019 ⟨bn1019, rfl, hst1019, hbl1019⟩
          have HB_1020 := hide (hbl1019 HB_1015.out)
          have HK_1021 := hide (Specs92.keep HK_1016.out hst1019.keep)
          clear HK_1016
          have HC_1022 := hide (Keep2.keep HC_1017.out hst1019.keep)
          clear HC_1017
          have HO_1023 := hide (own_stay HO_1018.out hst1019 (by decide) (by decide) (by decide))
          clear HO_1018
          clear hst1019 hbl1019
          go_wp2_with fail
          refine (bnext HB_1020.out (by omega)).mono ?_
          rintro e x1024 ⟨q1024, rfl, hq1024, hB1024, hS1024⟩
          have HB_1025 := hide hB1024
          have HK_1026 := hide (Specs92.keep HK_1021.out hS1024.keep)
          clear HK_1021
          have HC_1027 := hide (Keep2.keep HC_1022.out hS1024.keep)
          clear HC_1022
          have HO_1028 := hide (own_stay HO_1023.out hS1024 (by decide) (by decide) (by decide))
          clear HO_1023
          have hSz_1025 := hS1024.size
          clear hB1024 hS1024 hSz_1025
          clear hq1024
          go_wp2_with fail
          refine (ident_at (q1024) _).mono ?_
          rintro e y1029 ⟨bi1029, rfl, hid1029, hst1029, hbl1029⟩
          have HB_1030 := hide (hbl1029 HB_1025.out)
          have HK_1031 := hide (Specs92.keep HK_1026.out hst1029.keep)
          clear HK_1026
          have HC_1032 := hide (Keep2.keep HC_1027.out hst1029.keep)
          clear HC_1027
          have HO_1033 := hide (own_stay HO_1028.out hst1029 (by decide) (by decide) (by decide))
          clear HO_1028
          have HI_1034 := hide hid1029
          clear hid1029 hst1029 hbl1029
          go_wp2_with fail
          refine (bit_int f ((k : Int) + 10) _ (by omega) (by omega)).mono ?_
          rintro e y1035 ⟨t1035, rfl, rfl⟩
          cases t1035 with
          | false =>
            go_wp2_with (at_builtin; go_must (refine wpList_append_lies _ rfl (.tmp 360) (.tmp 366) 88 rfl w1.heap.size 89 i0 (.pointer none) 1 8 Tryz.underlying88 hi0 hz0 hz1 hz2 rfl (by decide) u54 vs.length vs rfl (by exact World.ownsRow.alloc (World.ownsRow.alloc HO_1033.out _) _) ⟨y1029.heap.size + 1, 0, none⟩ 1 1 [.pointer (some ⟨y1029.heap.size, 0, none⟩)] rfl (by simp) (by exact news_two _ _ _ _) (by simp [Value.oneCell']) (by omega) (by unfold maxLen; omega) (by omega) (by have := (Bld.below HB_1030.out).size; simp; omega) _ rfl ?_; intro g2 cap2 z2 hown2 hgrow2 hat2 hlt2))
            have hg := Bld.grow (Bld.alloc HB_1030.out _) (World.ownsRow.alloc HO_1033.out _) hgrow2 (by decide) (by unfold NodeTag; decide)
            go_roundw
            case rel => exact ⟨k + 1, vs ++ [.pointer (some ⟨y1029.heap.size, 0, none⟩)], ps ++ [none], ii + 2, _, by omega, by go_num, by simp [HV.out], by omega, by have := hg.1; simpa [places_snoc] using this, by first | (simp; done) | (simp; omega), by simpa using hown2, Specs.snoc (Specs92.keep HK_1031.out ((keep_alloc _ _).trans hg.2)) (SpecIs.keep (spec_new 92 6 _ _ _ none rfl (Or.inl ⟨rfl, rfl⟩)) (by unfold NodeTag; decide) hg.2), HKp.out.trans (Keep.trans HC_1032.out ((keep_alloc _ _).trans hg.2))⟩
            case measure => simp [intOf]; omega
          | true =>
            go_wp2_with fail
            refine (expr_any HB_1030.out (by omega) (by simp; try omega)).mono ?_
            rintro e x1036 ⟨b1036, rfl, p1036, c1036, hB1036, hS1036, hP1036⟩
            have HB_1037 := hide hB1036
            have HK_1038 := hide (Specs92.keep HK_1031.out hS1036.keep)
            clear HK_1031
            have HC_1039 := hide (Keep2.keep HC_1032.out hS1036.keep)
            clear HC_1032
            have HI_1040 := hide (IdentAt.keep HI_1034.out hS1036.keep)
            clear HI_1034
            have HO_1041 := hide (own_stay HO_1033.out hS1036 (by decide) (by decide) (by decide))
            clear HO_1033
            have hSz_1037 := hS1036.size
            clear hB1036 hS1036 hSz_1037
            have HP_1042 := hide hP1036
            clear hP1036
            go_wp2_with (at_builtin; go_must (refine wpList_append_lies _ rfl (.tmp 360) (.tmp 366) 88 rfl w1.heap.size 89 i0 (.pointer none) 1 8 Tryz.underlying88 hi0 hz0 hz1 hz2 rfl (by decide) u54 vs.length vs rfl (by exact World.ownsRow.alloc (World.ownsRow.alloc HO_1041.out _) _) ⟨x1036.heap.size + 1, 0, none⟩ 1 1 [.pointer (some ⟨x1036.heap.size, 0, none⟩)] rfl (by simp) (by exact news_two _ _ _ _) (by simp [Value.oneCell']) (by omega) (by unfold maxLen; omega) (by omega) (by have := (Bld.below HB_1037.out).size; simp; omega) _ rfl ?_; intro g2 cap2 z2 hown2 hgrow2 hat2 hlt2))
            have hg := Bld.grow (Bld.alloc HB_1037.out _) (World.ownsRow.alloc HO_1041.out _) hgrow2 (by decide) (by unfold NodeTag; decide)
            go_roundw
            case rel => exact ⟨k + 1, vs ++ [.pointer (some ⟨x1036.heap.size, 0, none⟩)], ps ++ [some p1036], ii + 4, _, by omega, by go_num, by simp [HV.out], by omega, by have := hg.1; simpa [places_snoc] using this, by first | (simp; done) | (simp; omega), by simpa using hown2, Specs.snoc (Specs92.keep HK_1038.out ((keep_alloc _ _).trans hg.2)) (SpecIs.keep (spec_new 92 6 _ _ _ (some p1036) rfl (Or.inr ⟨_, rfl, HP_1042.out⟩)) (by unfold NodeTag; decide) hg.2), HKp.out.trans (Keep.trans HC_1039.out ((keep_alloc _ _).trans hg.2))⟩
            case measure => simp [intOf]; omega
      · have hlti : ¬ (k : Int) < (n : Int) := by omega
        obtain ⟨sa, sn, sc, rfl⟩ : ∃ sa sn sc, u54 = .slice sa sn sc := own_form HO_r.out
        go_wp2_with fail
        refine (bit_int f (20) _ (by omega) (by omega)).mono ?_
        rintro e y2013 ⟨t2013, rfl, rfl⟩
        cases t2013 with
        | false =>
          go_wp2
          go_ret
          exact ⟨_, rfl, _, _, _, Bld.alloc HBr.out _, by simp; omega, by simpa using each_fdecl _ (new_block _ _ _) (rowOf (World.ownsRow.alloc HO_r.out _) rfl) (Specs92.keep HK_r.out (keep_alloc _ _)) (by have := HV.out; omega)⟩
        | true =>
          go_wp2_with fail
          refine (body_any HBr.out (by omega) (by simp; try omega)).mono ?_
          rintro e x2014 ⟨b2014, rfl, p2014, c2014, hB2014, hS2014, hP2014⟩
          have HB_2015 := hide hB2014
          have HK_2016 := hide (Specs92.keep HK_r.out hS2014.keep)
          clear HK_r
          have HO_2017 := hide (own_stay HO_r.out hS2014 (by decide) (by decide) (by decide))
          clear HO_r
          have hSz_2015 := hS2014.size
          clear hB2014 hS2014 hSz_2015
          have HP_2018 := hide hP2014
          clear hP2014
          go_wp2
          go_ret
          exact ⟨_, rfl, _, _, _, Bld.alloc HB_2015.out _, by simp; omega, by simpa using each_fdeclbody _ (new_block _ _ _) (PosIs.keep HP_2018.out (keep_alloc _ _)) (rowOf (World.ownsRow.alloc HO_2017.out _) rfl) (Specs92.keep HK_2016.out (keep_alloc _ _)) (by have := HV.out; omega)⟩

end Go.Proofs.Qxb6003857aGreat
