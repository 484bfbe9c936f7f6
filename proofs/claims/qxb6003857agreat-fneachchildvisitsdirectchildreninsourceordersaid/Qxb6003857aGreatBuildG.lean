/-
  buildParent: try. (Written by wip/gen/build.py.)
-/
import Derived.Test.Qxb6003857aGreatMake
import Derived.Test.Qxb6003857aGreatEachA
import Derived.Test.Qxb6003857aGreatEachC
import Derived.Test.Qxb6003857aGreatEachE

namespace Go.Proofs.Qxb6003857aGreat
open Go.RowKit

set_option maxHeartbeats 8000000 in
set_option maxRecDepth 100000 in
theorem build9 {w1 w : World} {G E len : Nat} {a : Option Addr} {d : Nat → Nat} {base : Int} (f : Int) (n : Nat) (hn : n ≤ 8) (h : Bld w1 G E a len d w 0 base []) :
    Calls Tryz.prog 6 #[.int .u8 9, .int .u32 f, .int .i64 n, .pointer (some ⟨G, 0, none⟩), .pointer (some ⟨E, 0, none⟩)] w fun e w' => ∃ node, e = .returned node ∧ Built w1 G E a len d node w' := by
  have HB0 := hide h
  clear h
  go_enter Tryz.func6, Tryz.ntmps6
  go_wp2_with fail
  refine (bnext HB0.out (by omega)).mono ?_
  rintro e x1 ⟨q1, rfl, hq1, hB1, hS1⟩
  have HB_2 := hide hB1
  have hSz_2 := hS1.size
  clear hB1 hS1 hSz_2
  clear hq1
  go_wp2_with fail
  refine (body_any HB_2.out (by omega) (by simp; try omega)).mono ?_
  rintro e x3 ⟨b3, rfl, p3, c3, hB3, hS3, hP3⟩
  have HB_4 := hide hB3
  have hSz_4 := hS3.size
  clear hB3 hS3 hSz_4
  have HP_5 := hide hP3
  clear hP3
  obtain ⟨i0, hi0, hz0, hz1, hz2⟩ := info_parts info103
  go_wp2
  obtain ⟨W0, hW0⟩ : ∃ W0 : World, W0 = x3 := ⟨_, rfl⟩
  go_loopw [62, 63] (fun v i wr => ∃ (k : Nat) (vs : List Value) (ps : List Int) (ii : Nat) (cc : Int), k ≤ n % 4 ∧ i = .int .i64 k ∧ vs.length = k ∧ ii ≤ 20 + 10 * k ∧ Bld w1 G E a len d wr ii cc ([p3] ++ ps) ∧ ps.length ≤ k ∧ wr.ownsRow w1.heap.size 103 1 v vs.length vs ∧ Cats wr vs ps ∧ Keep W0 wr) (fun _ i _ => n % 4 - (intOf i).toNat)
  case atStart => exact ⟨0, [], [], 4, _, Nat.zero_le _, rfl, rfl, by omega, by have := HB_4.out; simpa using this, by simp, World.ownsRow_nil _ _ _ _, cats_nil _, by rw [hW0]; exact Keep.refl _⟩
  case round =>
    obtain ⟨k, vs, ps, ii, cc, hk, rfl, hvs, hii, hB, hps, hown, hK, hKp⟩ := hrel
    have HBr := hide hB
    have HO_r := hide hown
    have HK_r := hide hK
    have HKp := hide hKp
    have HV := hide hvs
    have HP_5r := hide (PosIs.keep HP_5.out (hW0 ▸ HKp.out))
    clear hB hown hK hKp hvs
    have hvl : vs.length ≤ 8 := by have := HV.out; omega
    by_cases hlt : k < n % 4
    · have HC_r := hide (Keep.refl wr)
      have hlti : (k : Int) < (n : Int) % 4 := by omega
      go_wp2_with fail
      refine (bvisit HBr.out (by omega) (by simp; try omega)).mono ?_
      rintro e x1006 ⟨p1006, rfl, hB1006, hS1006⟩
      have HB_1007 := hide hB1006
      have HK_1008 := hide (Cats.keep HK_r.out hS1006.keep)
      clear HK_r
      have HC_1009 := hide (Keep2.keep HC_r.out hS1006.keep)
      clear HC_r
      have HO_1010 := hide (own_stay HO_r.out hS1006 (by decide) (by decide) (by decide))
      clear HO_r
      have hSz_1007 := hS1006.size
      clear hB1006 hS1006 hSz_1007
      go_wp2_with fail
      refine (bit_int f ((k : Int) + 1) _ (by omega) (by omega)).mono ?_
      rintro e y1011 ⟨t1011, rfl, rfl⟩
      cases t1011 with
      | false =>
        go_wp2_with fail
        refine (unvisited_any HB_1007.out (by omega)).mono ?_
        rintro e x1012 ⟨b1012, c1012, rfl, hB1012, hS1012⟩
        have HB_1013 := hide hB1012
        have HK_1014 := hide (Cats.keep HK_1008.out hS1012.keep)
        clear HK_1008
        have HC_1015 := hide (Keep2.keep HC_1009.out hS1012.keep)
        clear HC_1009
        have HO_1016 := hide (own_stay HO_1010.out hS1012 (by decide) (by decide) (by decide))
        clear HO_1010
        have hSz_1013 := hS1012.size
        clear hB1012 hS1012 hSz_1013
        go_wp2_with (at_builtin; go_must (refine wpList_append_lies _ rfl (.tmp 406) (.tmp 412) 101 rfl w1.heap.size 103 i0 (.pointer none) 1 8 Tryz.underlying101 hi0 hz0 hz1 hz2 rfl (by decide) u62 vs.length vs rfl (by exact World.ownsRow.alloc (World.ownsRow.alloc HO_1016.out _) _) ⟨x1012.heap.size + 1, 0, none⟩ 1 1 [.pointer (some ⟨x1012.heap.size, 0, none⟩)] rfl (by simp) (by exact news_two _ _ _ _) (by simp [Value.oneCell']) (by omega) (by unfold maxLen; omega) (by omega) (by have := (Bld.below HB_1013.out).size; simp; omega) _ rfl ?_; intro g2 cap2 z2 hown2 hgrow2 hat2 hlt2))
        have hg := Bld.grow (Bld.alloc HB_1013.out _) (World.ownsRow.alloc HO_1016.out _) hgrow2 (by decide) (by unfold NodeTag; decide)
        go_roundw
        case rel => exact ⟨k + 1, vs ++ [.pointer (some ⟨x1012.heap.size, 0, none⟩)], ps ++ [p1006], ii + 4, _, by omega, by go_num, by simp [HV.out], by omega, by have := hg.1; simpa using this, by first | (simp; done) | (simp; omega), by simpa using hown2, Cats.snoc (Cats.keep HK_1014.out ((keep_alloc _ _).trans hg.2)) (PosIs.keep (pos_new _ 103 105 _ _ p1006 (by decide) rfl rfl) hg.2), HKp.out.trans (Keep.trans HC_1015.out ((keep_alloc _ _).trans hg.2))⟩
        case measure => simp [intOf]; omega
      | true =>
        go_wp2_with fail
        refine (bnext HB_1007.out (by omega)).mono ?_
        rintro e x1012 ⟨q1012, rfl, hq1012, hB1012, hS1012⟩
        have HB_1013 := hide hB1012
        have HK_1014 := hide (Cats.keep HK_1008.out hS1012.keep)
        clear HK_1008
        have HC_1015 := hide (Keep2.keep HC_1009.out hS1012.keep)
        clear HC_1009
        have HO_1016 := hide (own_stay HO_1010.out hS1012 (by decide) (by decide) (by decide))
        clear HO_1010
        have hSz_1013 := hS1012.size
        clear hB1012 hS1012 hSz_1013
        clear hq1012
        go_wp2_with fail
        refine (named_at (q1012) _).mono ?_
        rintro e y1017 ⟨bn1017, rfl, hst1017, hbl1017⟩
        have HB_1018 := hide (hbl1017 HB_1013.out)
        have HK_1019 := hide (Cats.keep HK_1014.out hst1017.keep)
        clear HK_1014
        have HC_1020 := hide (Keep2.keep HC_1015.out hst1017.keep)
        clear HC_1015
        have HO_1021 := hide (own_stay HO_1016.out hst1017 (by decide) (by decide) (by decide))
        clear HO_1016
        clear hst1017 hbl1017
        go_wp2_with fail
        refine (unvisited_any HB_1018.out (by omega)).mono ?_
        rintro e x1022 ⟨b1022, c1022, rfl, hB1022, hS1022⟩
        have HB_1023 := hide hB1022
        have HK_1024 := hide (Cats.keep HK_1019.out hS1022.keep)
        clear HK_1019
        have HC_1025 := hide (Keep2.keep HC_1020.out hS1022.keep)
        clear HC_1020
        have HO_1026 := hide (own_stay HO_1021.out hS1022 (by decide) (by decide) (by decide))
        clear HO_1021
        have hSz_1023 := hS1022.size
        clear hB1022 hS1022 hSz_1023
        go_wp2_with (at_builtin; go_must (refine wpList_append_lies _ rfl (.tmp 406) (.tmp 412) 101 rfl w1.heap.size 103 i0 (.pointer none) 1 8 Tryz.underlying101 hi0 hz0 hz1 hz2 rfl (by decide) u62 vs.length vs rfl (by exact World.ownsRow.alloc (World.ownsRow.alloc HO_1026.out _) _) ⟨x1022.heap.size + 1, 0, none⟩ 1 1 [.pointer (some ⟨x1022.heap.size, 0, none⟩)] rfl (by simp) (by exact news_two _ _ _ _) (by simp [Value.oneCell']) (by omega) (by unfold maxLen; omega) (by omega) (by have := (Bld.below HB_1023.out).size; simp; omega) _ rfl ?_; intro g2 cap2 z2 hown2 hgrow2 hat2 hlt2))
        have hg := Bld.grow (Bld.alloc HB_1023.out _) (World.ownsRow.alloc HO_1026.out _) hgrow2 (by decide) (by unfold NodeTag; decide)
        go_roundw
        case rel => exact ⟨k + 1, vs ++ [.pointer (some ⟨x1022.heap.size, 0, none⟩)], ps ++ [p1006], ii + 5, _, by omega, by go_num, by simp [HV.out], by omega, by have := hg.1; simpa using this, by first | (simp; done) | (simp; omega), by simpa using hown2, Cats.snoc (Cats.keep HK_1024.out ((keep_alloc _ _).trans hg.2)) (PosIs.keep (pos_new _ 103 105 _ _ p1006 (by decide) rfl rfl) hg.2), HKp.out.trans (Keep.trans HC_1025.out ((keep_alloc _ _).trans hg.2))⟩
        case measure => simp [intOf]; omega
    · have hlti : ¬ (k : Int) < (n : Int) % 4 := by omega
      obtain ⟨sa, sn, sc, rfl⟩ : ∃ sa sn sc, u62 = .slice sa sn sc := own_form HO_r.out
      go_wp2_with fail
      refine (bit_int f (0) _ (by omega) (by omega)).mono ?_
      rintro e y2006 ⟨t2006, rfl, rfl⟩
      cases t2006 with
      | false =>
        go_wp2
        go_ret
        exact ⟨_, rfl, _, _, _, Bld.alloc HBr.out _, by simp; omega, by simpa using each_try _ (new_block _ _ _) (PosIs.keep HP_5r.out (keep_alloc _ _)) (rowOf (World.ownsRow.alloc HO_r.out _) rfl) (Cats.keep HK_r.out (keep_alloc _ _)) (by have := HV.out; omega)⟩
      | true =>
        go_wp2_with fail
        refine (bnext HBr.out (by omega)).mono ?_
        rintro e x2007 ⟨q2007, rfl, hq2007, hB2007, hS2007⟩
        have HB_2008 := hide hB2007
        have HP_2009 := hide (PosIs.keep HP_5r.out hS2007.keep)
        clear HP_5r
        have HK_2010 := hide (Cats.keep HK_r.out hS2007.keep)
        clear HK_r
        have HO_2011 := hide (own_stay HO_r.out hS2007 (by decide) (by decide) (by decide))
        clear HO_r
        have hSz_2008 := hS2007.size
        clear hB2007 hS2007 hSz_2008
        clear hq2007
        go_wp2_with fail
        refine (body_any HB_2008.out (by omega) (by simp; try omega)).mono ?_
        rintro e x2012 ⟨b2012, rfl, p2012, c2012, hB2012, hS2012, hP2012⟩
        have HB_2013 := hide hB2012
        have HP_2014 := hide (PosIs.keep HP_2009.out hS2012.keep)
        clear HP_2009
        have HK_2015 := hide (Cats.keep HK_2010.out hS2012.keep)
        clear HK_2010
        have HO_2016 := hide (own_stay HO_2011.out hS2012 (by decide) (by decide) (by decide))
        clear HO_2011
        have hSz_2013 := hS2012.size
        clear hB2012 hS2012 hSz_2013
        have HP_2017 := hide hP2012
        clear hP2012
        go_wp2
        go_ret
        exact ⟨_, rfl, _, _, _, Bld.alloc HB_2013.out _, by simp; omega, by simpa using each_tryfin _ (new_block _ _ _) (PosIs.keep HP_2014.out (keep_alloc _ _)) (PosIs.keep HP_2017.out (keep_alloc _ _)) (rowOf (World.ownsRow.alloc HO_2016.out _) rfl) (Cats.keep HK_2015.out (keep_alloc _ _)) (by have := HV.out; omega)⟩

end Go.Proofs.Qxb6003857aGreat
