/-
  buildParent: variable declaration. (Written by wip/gen/build.py.)
-/
import Derived.Test.Qxb6003857aGreatMake
import Derived.Test.Qxb6003857aGreatEachA
import Derived.Test.Qxb6003857aGreatEachC
import Derived.Test.Qxb6003857aGreatEachE

namespace Go.Proofs.Qxb6003857aGreat
open Go.RowKit

set_option maxHeartbeats 8000000 in
set_option maxRecDepth 100000 in
theorem build7 {w1 w : World} {G E len : Nat} {a : Option Addr} {d : Nat → Nat} {base : Int} (f : Int) (n : Nat) (hn : n ≤ 8) (h : Bld w1 G E a len d w 0 base []) :
    Calls Tryz.prog 6 #[.int .u8 7, .int .u32 f, .int .i64 n, .pointer (some ⟨G, 0, none⟩), .pointer (some ⟨E, 0, none⟩)] w fun e w' => ∃ node, e = .returned node ∧ Built w1 G E a len d node w' := by
  have HB0 := hide h
  clear h
  go_enter Tryz.func6, Tryz.ntmps6
  go_wp2_with fail
  refine (bnext HB0.out (by omega)).mono ?_
  rintro e x1 ⟨q1, rfl, hq1, hB1, hS1⟩
  have HB_2 := hide hB1
  have hSz_2 := hS1.size
  clear hB1 hS1 hSz_2
  clear hq1
  go_wp2_with fail
  refine (bit_int f (0) _ (by omega) (by omega)).mono ?_
  rintro e y3 ⟨t3, rfl, rfl⟩
  cases t3 with
  | false =>
    obtain ⟨i0, hi0, hz0, hz1, hz2⟩ := info_parts info76
    go_wp2
    obtain ⟨W0, hW0⟩ : ∃ W0 : World, W0 = x1 := ⟨_, rfl⟩
    go_loopw [47, 48] (fun v i wr => ∃ (k : Nat) (vs : List Value) (ps : List (Option Int)) (ii : Nat) (cc : Int), k ≤ n ∧ i = .int .i64 k ∧ vs.length = k ∧ ii ≤ 20 + 10 * k ∧ Bld w1 G E a len d wr ii cc ([] ++ places ps) ∧ ps.length ≤ k ∧ wr.ownsRow w1.heap.size 76 1 v vs.length vs ∧ Specs 78 1 wr vs ps ∧ Keep W0 wr) (fun _ i _ => n - (intOf i).toNat)
    case atStart => exact ⟨0, [], [], 1, _, Nat.zero_le _, rfl, rfl, by omega, by have := HB_2.out; simpa [places] using this, by simp, World.ownsRow_nil _ _ _ _, specs_nil _ _ _, by rw [hW0]; exact Keep.refl _⟩
    case round =>
      obtain ⟨k, vs, ps, ii, cc, hk, rfl, hvs, hii, hB, hps, hown, hK, hKp⟩ := hrel
      have HBr := hide hB
      have HO_r := hide hown
      have HK_r := hide hK
      have HKp := hide hKp
      have HV := hide hvs
      clear hB hown hK hKp hvs
      have hvl : vs.length ≤ 8 := by have := HV.out; omega
      have hpl : (places ps).length ≤ ps.length := List.length_filterMap_le _ _
      by_cases hlt : k < n
      · have HC_r := hide (Keep.refl wr)
        have hlti : (k : Int) < (n : Int) := by omega
        go_wp2_with fail
        refine (bnext HBr.out (by omega)).mono ?_
        rintro e x1004 ⟨q1004, rfl, hq1004, hB1004, hS1004⟩
        have HB_1005 := hide hB1004
        have HK_1006 := hide (Specs78.keep HK_r.out hS1004.keep)
        clear HK_r
        have HC_1007 := hide (Keep2.keep HC_r.out hS1004.keep)
        clear HC_r
        have HO_1008 := hide (own_stay HO_r.out hS1004 (by decide) (by decide) (by decide))
        clear HO_r
        have hSz_1005 := hS1004.size
        clear hB1004 hS1004 hSz_1005
        clear hq1004
        go_wp2_with fail
        refine (ident_at (q1004) _).mono ?_
        rintro e y1009 ⟨bi1009, rfl, hid1009, hst1009, hbl1009⟩
        have HB_1010 := hide (hbl1009 HB_1005.out)
        have HK_1011 := hide (Specs78.keep HK_1006.out hst1009.keep)
        clear HK_1006
        have HC_1012 := hide (Keep2.keep HC_1007.out hst1009.keep)
        clear HC_1007
        have HO_1013 := hide (own_stay HO_1008.out hst1009 (by decide) (by decide) (by decide))
        clear HO_1008
        have HI_1014 := hide hid1009
        clear hid1009 hst1009 hbl1009
        go_wp2_with fail
        refine (bit_int f ((k : Int) + 1) _ (by omega) (by omega)).mono ?_
        rintro e y1015 ⟨t1015, rfl, rfl⟩
        cases t1015 with
        | false =>
          go_wp2_with (at_builtin; go_must (refine wpList_append_lies _ rfl (.tmp 309) (.tmp 314) 80 rfl w1.heap.size 76 i0 (.pointer none) 1 8 Tryz.underlying80 hi0 hz0 hz1 hz2 rfl (by decide) u47 vs.length vs rfl (by exact World.ownsRow.alloc (World.ownsRow.alloc HO_1013.out _) _) ⟨y1009.heap.size + 1, 0, none⟩ 1 1 [.pointer (some ⟨y1009.heap.size, 0, none⟩)] rfl (by simp) (by exact news_two _ _ _ _) (by simp [Value.oneCell']) (by omega) (by unfold maxLen; omega) (by omega) (by have := (Bld.below HB_1010.out).size; simp; omega) _ rfl ?_; intro g2 cap2 z2 hown2 hgrow2 hat2 hlt2))
          have hg := Bld.grow (Bld.alloc HB_1010.out _) (World.ownsRow.alloc HO_1013.out _) hgrow2 (by decide) (by unfold NodeTag; decide)
          go_roundw
          case rel => exact ⟨k + 1, vs ++ [.pointer (some ⟨y1009.heap.size, 0, none⟩)], ps ++ [none], ii + 1, _, by omega, by go_num, by simp [HV.out], by omega, by have := hg.1; simpa [places_snoc] using this, by first | (simp; done) | (simp; omega), by simpa using hown2, Specs.snoc (Specs78.keep HK_1011.out ((keep_alloc _ _).trans hg.2)) (SpecIs.keep (spec_new 78 1 _ _ _ none rfl (Or.inl ⟨rfl, rfl⟩)) (by unfold NodeTag; decide) hg.2), HKp.out.trans (Keep.trans HC_1012.out ((keep_alloc _ _).trans hg.2))⟩
          case measure => simp [intOf]; omega
        | true =>
          go_wp2_with fail
          refine (expr_any HB_1010.out (by omega) (by simp; try omega)).mono ?_
          rintro e x1016 ⟨b1016, rfl, p1016, c1016, hB1016, hS1016, hP1016⟩
          have HB_1017 := hide hB1016
          have HK_1018 := hide (Specs78.keep HK_1011.out hS1016.keep)
          clear HK_1011
          have HC_1019 := hide (Keep2.keep HC_1012.out hS1016.keep)
          clear HC_1012
          have HI_1020 := hide (IdentAt.keep HI_1014.out hS1016.keep)
          clear HI_1014
          have HO_1021 := hide (own_stay HO_1013.out hS1016 (by decide) (by decide) (by decide))
          clear HO_1013
          have hSz_1017 := hS1016.size
          clear hB1016 hS1016 hSz_1017
          have HP_1022 := hide hP1016
          clear hP1016
          go_wp2_with (at_builtin; go_must (refine wpList_append_lies _ rfl (.tmp 309) (.tmp 314) 80 rfl w1.heap.size 76 i0 (.pointer none) 1 8 Tryz.underlying80 hi0 hz0 hz1 hz2 rfl (by decide) u47 vs.length vs rfl (by exact World.ownsRow.alloc (World.ownsRow.alloc HO_1021.out _) _) ⟨x1016.heap.size + 1, 0, none⟩ 1 1 [.pointer (some ⟨x1016.heap.size, 0, none⟩)] rfl (by simp) (by exact news_two _ _ _ _) (by simp [Value.oneCell']) (by omega) (by unfold maxLen; omega) (by omega) (by have := (Bld.below HB_1017.out).size; simp; omega) _ rfl ?_; intro g2 cap2 z2 hown2 hgrow2 hat2 hlt2))
          have hg := Bld.grow (Bld.alloc HB_1017.out _) (World.ownsRow.alloc HO_1021.out _) hgrow2 (by decide) (by unfold NodeTag; decide)
          go_roundw
          case rel => exact ⟨k + 1, vs ++ [.pointer (some ⟨x1016.heap.size, 0, none⟩)], ps ++ [some p1016], ii + 3, _, by omega, by go_num, by simp [HV.out], by omega, by have := hg.1; simpa [places_snoc] using this, by first | (simp; done) | (simp; omega), by simpa using hown2, Specs.snoc (Specs78.keep HK_1018.out ((keep_alloc _ _).trans hg.2)) (SpecIs.keep (spec_new 78 1 _ _ _ (some p1016) rfl (Or.inr ⟨_, rfl, HP_1022.out⟩)) (by unfold NodeTag; decide) hg.2), HKp.out.trans (Keep.trans HC_1019.out ((keep_alloc _ _).trans hg.2))⟩
          case measure => simp [intOf]; omega
      · have hlti : ¬ (k : Int) < (n : Int) := by omega
        obtain ⟨sa, sn, sc, rfl⟩ : ∃ sa sn sc, u47 = .slice sa sn sc := own_form HO_r.out
        go_wp2_with fail
        refine (bit_int f (20) _ (by omega) (by omega)).mono ?_
        rintro e y2004 ⟨t2004, rfl, rfl⟩
        go_wp2
        go_ret
        exact ⟨_, rfl, _, _, _, Bld.alloc HBr.out _, by simp; omega, by simpa using each_vardecl _ (new_block _ _ _) (rowOf (World.ownsRow.alloc HO_r.out _) rfl) (Specs78.keep HK_r.out (keep_alloc _ _)) (by have := HV.out; omega)⟩
  | true =>
    go_wp2_with fail
    refine (bnext HB_2.out (by omega)).mono ?_
    rintro e x4 ⟨q4, rfl, hq4, hB4, hS4⟩
    have HB_5 := hide hB4
    have hSz_5 := hS4.size
    clear hB4 hS4 hSz_5
    clear hq4
    go_wp2_with fail
    refine (named_at (q4) _).mono ?_
    rintro e y6 ⟨bn6, rfl, hst6, hbl6⟩
    have HB_7 := hide (hbl6 HB_5.out)
    clear hst6 hbl6
    obtain ⟨i0, hi0, hz0, hz1, hz2⟩ := info_parts info76
    go_wp2
    obtain ⟨W0, hW0⟩ : ∃ W0 : World, W0 = y6 := ⟨_, rfl⟩
    go_loopw [47, 48] (fun v i wr => ∃ (k : Nat) (vs : List Value) (ps : List (Option Int)) (ii : Nat) (cc : Int), k ≤ n ∧ i = .int .i64 k ∧ vs.length = k ∧ ii ≤ 20 + 10 * k ∧ Bld w1 G E a len d wr ii cc ([] ++ places ps) ∧ ps.length ≤ k ∧ wr.ownsRow w1.heap.size 76 1 v vs.length vs ∧ Specs 78 1 wr vs ps ∧ Keep W0 wr) (fun _ i _ => n - (intOf i).toNat)
    case atStart => exact ⟨0, [], [], 2, _, Nat.zero_le _, rfl, rfl, by omega, by have := HB_7.out; simpa [places] using this, by simp, World.ownsRow_nil _ _ _ _, specs_nil _ _ _, by rw [hW0]; exact Keep.refl _⟩
    case round =>
      obtain ⟨k, vs, ps, ii, cc, hk, rfl, hvs, hii, hB, hps, hown, hK, hKp⟩ := hrel
      have HBr := hide hB
      have HO_r := hide hown
      have HK_r := hide hK
      have HKp := hide hKp
      have HV := hide hvs
      clear hB hown hK hKp hvs
      have hvl : vs.length ≤ 8 := by have := HV.out; omega
      have hpl : (places ps).length ≤ ps.length := List.length_filterMap_le _ _
      by_cases hlt : k < n
      · have HC_r := hide (Keep.refl wr)
        have hlti : (k : Int) < (n : Int) := by omega
        go_wp2_with fail
        refine (bnext HBr.out (by omega)).mono ?_
        rintro e x1008 ⟨q1008, rfl, hq1008, hB1008, hS1008⟩
        have HB_1009 := hide hB1008
        have HK_1010 := hide (Specs78.keep HK_r.out hS1008.keep)
        clear HK_r
        have HC_1011 := hide (Keep2.keep HC_r.out hS1008.keep)
        clear HC_r
        have HO_1012 := hide (own_stay HO_r.out hS1008 (by decide) (by decide) (by decide))
        clear HO_r
        have hSz_1009 := hS1008.size
        clear hB1008 hS1008 hSz_1009
        clear hq1008
        go_wp2_with fail
        refine (ident_at (q1008) _).mono ?_
        rintro e y1013 ⟨bi1013, rfl, hid1013, hst1013, hbl1013⟩
        have HB_1014 := hide (hbl1013 HB_1009.out)
        have HK_1015 := hide (Specs78.keep HK_1010.out hst1013.keep)
        clear HK_1010
        have HC_1016 := hide (Keep2.keep HC_1011.out hst1013.keep)
        clear HC_1011
        have HO_1017 := hide (own_stay HO_1012.out hst1013 (by decide) (by decide) (by decide))
        clear HO_1012
        have HI_1018 := hide hid1013
        clear hid1013 hst1013 hbl1013
        go_wp2_with fail
        refine (bit_int f ((k : Int) + 1) _ (by omega) (by omega)).mono ?_
        rintro e y1019 ⟨t1019, rfl, rfl⟩
        cases t1019 with
        | false =>
          go_wp2_with (at_builtin; go_must (refine wpList_append_lies _ rfl (.tmp 309) (.tmp 314) 80 rfl w1.heap.size 76 i0 (.pointer none) 1 8 Tryz.underlying80 hi0 hz0 hz1 hz2 rfl (by decide) u47 vs.length vs rfl (by exact World.ownsRow.alloc (World.ownsRow.alloc HO_1017.out _) _) ⟨y1013.heap.size + 1, 0, none⟩ 1 1 [.pointer (some ⟨y1013.heap.size, 0, none⟩)] rfl (by simp) (by exact news_two _ _ _ _) (by simp [Value.oneCell']) (by omega) (by unfold maxLen; omega) (by omega) (by have := (Bld.below HB_1014.out).size; simp; omega) _ rfl ?_; intro g2 cap2 z2 hown2 hgrow2 hat2 hlt2))
          have hg := Bld.grow (Bld.alloc HB_1014.out _) (World.ownsRow.alloc HO_1017.out _) hgrow2 (by decide) (by unfold NodeTag; decide)
          go_roundw
          case rel => exact ⟨k + 1, vs ++ [.pointer (some ⟨y1013.heap.size, 0, none⟩)], ps ++ [none], ii + 1, _, by omega, by go_num, by simp [HV.out], by omega, by have := hg.1; simpa [places_snoc] using this, by first | (simp; done) | (simp; omega), by simpa using hown2, Specs.snoc (Specs78.keep HK_1015.out ((keep_alloc _ _).trans hg.2)) (SpecIs.keep (spec_new 78 1 _ _ _ none rfl (Or.inl ⟨rfl, rfl⟩)) (by unfold NodeTag; decide) hg.2), HKp.out.trans (Keep.trans HC_1016.out ((keep_alloc _ _).trans hg.2))⟩
          case measure => simp [intOf]; omega
        | true =>
          go_wp2_with fail
          refine (expr_any HB_1014.out (by omega) (by simp; try omega)).mono ?_
          rintro e x1020 ⟨b1020, rfl, p1020, c1020, hB1020, hS1020, hP1020⟩
          have HB_1021 := hide hB1020
          have HK_1022 := hide (Specs78.keep HK_1015.out hS1020.keep)
          clear HK_1015
          have HC_1023 := hide (Keep2.keep HC_1016.out hS1020.keep)
          clear HC_1016
          have HI_1024 := hide (IdentAt.keep HI_1018.out hS1020.keep)
          clear HI_1018
          have HO_1025 := hide (own_stay HO_1017.out hS1020 (by decide) (by decide) (by decide))
          clear HO_1017
          have hSz_1021 := hS1020.size
          clear hB1020 hS1020 hSz_1021
          have HP_1026 := hide hP1020
          clear hP1020
          go_wp2_with (at_builtin; go_must (refine wpList_append_lies _ rfl (.tmp 309) (.tmp 314) 80 rfl w1.heap.size 76 i0 (.pointer none) 1 8 Tryz.underlying80 hi0 hz0 hz1 hz2 rfl (by decide) u47 vs.length vs rfl (by exact World.ownsRow.alloc (World.ownsRow.alloc HO_1025.out _) _) ⟨x1020.heap.size + 1, 0, none⟩ 1 1 [.pointer (some ⟨x1020.heap.size, 0, none⟩)] rfl (by simp) (by exact news_two _ _ _ _) (by simp [Value.oneCell']) (by omega) (by unfold maxLen; omega) (by omega) (by have := (Bld.below HB_1021.out).size; simp; omega) _ rfl ?_; intro g2 cap2 z2 hown2 hgrow2 hat2 hlt2))
          have hg := Bld.grow (Bld.alloc HB_1021.out _) (World.ownsRow.alloc HO_1025.out _) hgrow2 (by decide) (by unfold NodeTag; decide)
          go_roundw
          case rel => exact ⟨k + 1, vs ++ [.pointer (some ⟨x1020.heap.size, 0, none⟩)], ps ++ [some p1020], ii + 3, _, by omega, by go_num, by simp [HV.out], by omega, by have := hg.1; simpa [places_snoc] using this, by first | (simp; done) | (simp; omega), by simpa using hown2, Specs.snoc (Specs78.keep HK_1022.out ((keep_alloc _ _).trans hg.2)) (SpecIs.keep (spec_new 78 1 _ _ _ (some p1020) rfl (Or.inr ⟨_, rfl, HP_1026.out⟩)) (by unfold NodeTag; decide) hg.2), HKp.out.trans (Keep.trans HC_1023.out ((keep_alloc _ _).trans hg.2))⟩
          case measure => simp [intOf]; omega
      · have hlti : ¬ (k : Int) < (n : Int) := by omega
        obtain ⟨sa, sn, sc, rfl⟩ : ∃ sa sn sc, u47 = .slice sa sn sc := own_form HO_r.out
        go_wp2_with fail
        refine (bit_int f (20) _ (by omega) (by omega)).mono ?_
        rintro e y2008 ⟨t2008, rfl, rfl⟩
        go_wp2
        go_ret
        exact ⟨_, rfl, _, _, _, Bld.alloc HBr.out _, by simp; omega, by simpa using each_vardecl _ (new_block _ _ _) (rowOf (World.ownsRow.alloc HO_r.out _) rfl) (Specs78.keep HK_r.out (keep_alloc _ _)) (by have := HV.out; omega)⟩

end Go.Proofs.Qxb6003857aGreat
