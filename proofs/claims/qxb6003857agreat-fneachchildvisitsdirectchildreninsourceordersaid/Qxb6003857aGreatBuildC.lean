/-
  buildParent: call. (Written by wip/gen/build.py.)
-/
import Derived.Test.Qxb6003857aGreatMake
import Derived.Test.Qxb6003857aGreatEachA
import Derived.Test.Qxb6003857aGreatEachC
import Derived.Test.Qxb6003857aGreatEachE

namespace Go.Proofs.Qxb6003857aGreat
open Go.RowKit

set_option maxHeartbeats 8000000 in
set_option maxRecDepth 100000 in
theorem build3 {w1 w : World} {G E len : Nat} {a : Option Addr} {d : Nat → Nat} {base : Int} (f : Int) (n : Nat) (hn : n ≤ 8) (h : Bld w1 G E a len d w 0 base []) :
    Calls Tryz.prog 6 #[.int .u8 3, .int .u32 f, .int .i64 n, .pointer (some ⟨G, 0, none⟩), .pointer (some ⟨E, 0, none⟩)] w fun e w' => ∃ node, e = .returned node ∧ Built w1 G E a len d node w' := by
  have HB0 := hide h
  clear h
  go_enter Tryz.func6, Tryz.ntmps6
  go_wp2_with fail
  refine (expr_any HB0.out (by omega) (by simp; try omega)).mono ?_
  rintro e x1 ⟨b1, rfl, p1, c1, hB1, hS1, hP1⟩
  have HB_2 := hide hB1
  have hSz_2 := hS1.size
  clear hB1 hS1 hSz_2
  have HP_3 := hide hP1
  clear hP1
  obtain ⟨i0, hi0, hz0, hz1, hz2⟩ := info_parts info70
  go_wp2
  obtain ⟨W0, hW0⟩ : ∃ W0 : World, W0 = x1 := ⟨_, rfl⟩
  go_loopw [22, 23] (fun v i wr => ∃ (k : Nat) (vs : List Value) (ps : List Int) (ii : Nat) (cc : Int), k ≤ n % 3 ∧ i = .int .i64 k ∧ vs.length = k ∧ ii ≤ 20 + 10 * k ∧ Bld w1 G E a len d wr ii cc ([p1]) ∧ ps.length ≤ k ∧ wr.ownsRow w1.heap.size 70 1 v vs.length vs ∧ Keep W0 wr) (fun _ i _ => n % 3 - (intOf i).toNat)
  case atStart => exact ⟨0, [], [], 2, _, Nat.zero_le _, rfl, rfl, by omega, by have := HB_2.out; simpa using this, by simp, World.ownsRow_nil _ _ _ _, by rw [hW0]; exact Keep.refl _⟩
  case round =>
    obtain ⟨k, vs, ps, ii, cc, hk, rfl, hvs, hii, hB, hps, hown, hKp⟩ := hrel
    have HBr := hide hB
    have HO_r := hide hown
    have HKp := hide hKp
    have HV := hide hvs
    have HP_3r := hide (PosIs.keep HP_3.out (hW0 ▸ HKp.out))
    clear hB hown hKp hvs
    have hvl : vs.length ≤ 8 := by have := HV.out; omega
    by_cases hlt : k < n % 3
    · have HC_r := hide (Keep.refl wr)
      have hlti : (k : Int) < (n : Int) % 3 := by omega
      go_wp2_with fail
      refine (bnext HBr.out (by omega)).mono ?_
      rintro e x1004 ⟨q1004, rfl, hq1004, hB1004, hS1004⟩
      have HB_1005 := hide hB1004
      have HC_1006 := hide (Keep2.keep HC_r.out hS1004.keep)
      clear HC_r
      have HO_1007 := hide (own_stay HO_r.out hS1004 (by decide) (by decide) (by decide))
      clear HO_r
      have hSz_1005 := hS1004.size
      clear hB1004 hS1004 hSz_1005
      clear hq1004
      go_wp2_with fail
      refine (named_at (q1004) _).mono ?_
      rintro e y1008 ⟨bn1008, rfl, hst1008, hbl1008⟩
      have HB_1009 := hide (hbl1008 HB_1005.out)
      have HC_1010 := hide (Keep2.keep HC_1006.out hst1008.keep)
      clear HC_1006
      have HO_1011 := hide (own_stay HO_1007.out hst1008 (by decide) (by decide) (by decide))
      clear HO_1007
      clear hst1008 hbl1008
      go_wp2_with (at_builtin; go_must (refine wpList_append_lies _ rfl (.tmp 143) (.tmp 148) 55 rfl w1.heap.size 70 i0 .nilIface 1 16 Tryz.underlying55 hi0 hz0 hz1 hz2 rfl (by decide) u22 vs.length vs rfl (by exact World.ownsRow.alloc HO_1011.out _) ⟨y1008.heap.size, 0, none⟩ 1 1 [.iface 56 (.pointer (some ⟨bn1008, 0, none⟩))] rfl (by simp) (by exact cell_one_new _ _ _) (by simp [Value.oneCell']) (by omega) (by unfold maxLen; omega) (by omega) (by have := (Bld.below HB_1009.out).size; simp; omega) _ rfl ?_; intro g2 cap2 z2 hown2 hgrow2 hat2 hlt2))
      have hg := Bld.grow HB_1009.out HO_1011.out hgrow2 (by decide) (by unfold NodeTag; decide)
      go_roundw
      case rel => exact ⟨k + 1, vs ++ [.iface 56 (.pointer (some ⟨bn1008, 0, none⟩))], [], ii + 1, _, by omega, by go_num, by simp [HV.out], by omega, by have := hg.1; simpa using this, by first | (simp; done) | (simp; omega), by simpa using hown2, HKp.out.trans (Keep.trans HC_1010.out hg.2)⟩
      case measure => simp [intOf]; omega
    · have hlti : ¬ (k : Int) < (n : Int) % 3 := by omega
      obtain ⟨sa, sn, sc, rfl⟩ : ∃ sa sn sc, u22 = .slice sa sn sc := own_form HO_r.out
      obtain ⟨i0, hi0, hz0, hz1, hz2⟩ := info_parts info45
      go_wp2
      obtain ⟨W0, hW0⟩ : ∃ W0 : World, W0 = wr := ⟨_, rfl⟩
      go_loopw [24, 25] (fun v i wr => ∃ (k : Nat) (vs : List Value) (ps : List Int) (ii : Nat) (cc : Int), k ≤ n ∧ i = .int .i64 k ∧ vs.length = k ∧ ii ≤ 100 + 10 * k ∧ Bld w1 G E a len d wr ii cc ([p1] ++ ps) ∧ ps.length ≤ k ∧ wr.ownsRow w1.heap.size 45 1 v vs.length vs ∧ Kids wr vs ps ∧ Keep W0 wr) (fun _ i _ => n - (intOf i).toNat)
      case atStart => exact ⟨0, [], [], ii, _, Nat.zero_le _, rfl, rfl, by omega, by have := HBr.out; simpa using this, by simp, World.ownsRow_nil _ _ _ _, kids_nil _, by rw [hW0]; exact Keep.refl _⟩
      case round =>
        obtain ⟨k, vs, ps, ii, cc, hk, rfl, hvs, hii, hB, hps, hown, hK, hKp⟩ := hrel
        have HBr := hide hB
        have HO_r := hide hown
        have HK_r := hide hK
        have HKp := hide hKp
        have HV := hide hvs
        have HP_3rr := hide (PosIs.keep HP_3r.out (hW0 ▸ HKp.out))
        clear hB hown hK hKp hvs
        have hvl : vs.length ≤ 8 := by have := HV.out; omega
        by_cases hlt : k < n
        · have HC_r := hide (Keep.refl wr)
          have hlti : (k : Int) < (n : Int) := by omega
          go_wp2_with fail
          refine (bit_int f ((k : Int) + 1) _ (by omega) (by omega)).mono ?_
          rintro e y3004 ⟨t3004, rfl, rfl⟩
          cases t3004 with
          | false =>
            go_wp2_with fail
            refine (expr_any HBr.out (by omega) (by simp; try omega)).mono ?_
            rintro e x3005 ⟨b3005, rfl, p3005, c3005, hB3005, hS3005, hP3005⟩
            have HB_3006 := hide hB3005
            have HK_3007 := hide (Kids.keep HK_r.out hS3005.keep)
            clear HK_r
            have HC_3008 := hide (Keep2.keep HC_r.out hS3005.keep)
            clear HC_r
            have HO_3009 := hide (own_stay HO_r.out hS3005 (by decide) (by decide) (by decide))
            clear HO_r
            have hSz_3006 := hS3005.size
            clear hB3005 hS3005 hSz_3006
            have HP_3010 := hide hP3005
            clear hP3005
            go_wp2_with (at_builtin; go_must (refine wpList_append_lies _ rfl (.tmp 175) (.tmp 179) 58 rfl w1.heap.size 45 i0 .nilIface 1 16 Tryz.underlying58 hi0 hz0 hz1 hz2 rfl (by decide) u24 vs.length vs rfl (by exact World.ownsRow.alloc HO_3009.out _) ⟨x3005.heap.size, 0, none⟩ 1 1 [.iface 177 (.pointer (some ⟨b3005, 0, none⟩))] rfl (by simp) (by exact cell_one_new _ _ _) (by simp [Value.oneCell']) (by omega) (by unfold maxLen; omega) (by omega) (by have := (Bld.below HB_3006.out).size; simp; omega) _ rfl ?_; intro g2 cap2 z2 hown2 hgrow2 hat2 hlt2))
            have hg := Bld.grow HB_3006.out HO_3009.out hgrow2 (by decide) (by unfold NodeTag; decide)
            go_roundw
            case rel => exact ⟨k + 1, vs ++ [.iface 177 (.pointer (some ⟨b3005, 0, none⟩))], ps ++ [p3005], ii + 2, _, by omega, by go_num, by simp [HV.out], by omega, by have := hg.1; simpa using this, by first | (simp; done) | (simp; omega), by simpa using hown2, Kids.snoc (Kids.keep HK_3007.out hg.2) (PosIs.keep HP_3010.out hg.2), HKp.out.trans (Keep.trans HC_3008.out hg.2)⟩
            case measure => simp [intOf]; omega
          | true =>
            go_wp2_with fail
            refine (bvisit HBr.out (by omega) (by simp; try omega)).mono ?_
            rintro e x3005 ⟨p3005, rfl, hB3005, hS3005⟩
            have HB_3006 := hide hB3005
            have HK_3007 := hide (Kids.keep HK_r.out hS3005.keep)
            clear HK_r
            have HC_3008 := hide (Keep2.keep HC_r.out hS3005.keep)
            clear HC_r
            have HO_3009 := hide (own_stay HO_r.out hS3005 (by decide) (by decide) (by decide))
            clear HO_r
            have hSz_3006 := hS3005.size
            clear hB3005 hS3005 hSz_3006
            go_wp2_with fail
            refine (ident_at (p3005) _).mono ?_
            rintro e y3010 ⟨bi3010, rfl, hid3010, hst3010, hbl3010⟩
            have HB_3011 := hide (hbl3010 HB_3006.out)
            have HK_3012 := hide (Kids.keep HK_3007.out hst3010.keep)
            clear HK_3007
            have HC_3013 := hide (Keep2.keep HC_3008.out hst3010.keep)
            clear HC_3008
            have HO_3014 := hide (own_stay HO_3009.out hst3010 (by decide) (by decide) (by decide))
            clear HO_3009
            have HI_3015 := hide hid3010
            clear hid3010 hst3010 hbl3010
            go_wp2_with fail
            refine (bnext HB_3011.out (by omega)).mono ?_
            rintro e x3016 ⟨q3016, rfl, hq3016, hB3016, hS3016⟩
            have HB_3017 := hide hB3016
            have HK_3018 := hide (Kids.keep HK_3012.out hS3016.keep)
            clear HK_3012
            have HC_3019 := hide (Keep2.keep HC_3013.out hS3016.keep)
            clear HC_3013
            have HI_3020 := hide (IdentAt.keep HI_3015.out hS3016.keep)
            clear HI_3015
            have HO_3021 := hide (own_stay HO_3014.out hS3016 (by decide) (by decide) (by decide))
            clear HO_3014
            have hSz_3017 := hS3016.size
            clear hB3016 hS3016 hSz_3017
            clear hq3016
            go_wp2_with fail
            refine (ident_at (q3016) _).mono ?_
            rintro e y3022 ⟨bi3022, rfl, hid3022, hst3022, hbl3022⟩
            have HB_3023 := hide (hbl3022 HB_3017.out)
            have HK_3024 := hide (Kids.keep HK_3018.out hst3022.keep)
            clear HK_3018
            have HC_3025 := hide (Keep2.keep HC_3019.out hst3022.keep)
            clear HC_3019
            have HI_3026 := hide (IdentAt.keep HI_3020.out hst3022.keep)
            clear HI_3020
            have HO_3027 := hide (own_stay HO_3021.out hst3022 (by decide) (by decide) (by decide))
            clear HO_3021
            have HI_3028 := hide hid3022
            clear hid3022 hst3022 hbl3022
            go_wp2_with (at_builtin; go_must (refine wpList_append_lies _ rfl (.tmp 166) (.tmp 173) 58 rfl w1.heap.size 45 i0 .nilIface 1 16 Tryz.underlying58 hi0 hz0 hz1 hz2 rfl (by decide) u24 vs.length vs rfl (by exact World.ownsRow.alloc (World.ownsRow.alloc HO_3027.out _) _) ⟨y3022.heap.size + 1, 0, none⟩ 1 1 [.iface 62 (.pointer (some ⟨y3022.heap.size, 0, none⟩))] rfl (by simp) (by exact news_two _ _ _ _) (by simp [Value.oneCell']) (by omega) (by unfold maxLen; omega) (by omega) (by have := (Bld.below HB_3023.out).size; simp; omega) _ rfl ?_; intro g2 cap2 z2 hown2 hgrow2 hat2 hlt2))
            have hg := Bld.grow (Bld.alloc HB_3023.out _) (World.ownsRow.alloc HO_3027.out _) hgrow2 (by decide) (by unfold NodeTag; decide)
            go_roundw
            case rel => exact ⟨k + 1, vs ++ [.iface 62 (.pointer (some ⟨y3022.heap.size, 0, none⟩))], ps ++ [p3005], ii + 2, _, by omega, by go_num, by simp [HV.out], by omega, by have := hg.1; simpa using this, by first | (simp; done) | (simp; omega), by simpa using hown2, Kids.snoc (Kids.keep HK_3024.out ((keep_alloc _ _).trans hg.2)) (PosIs.keep (namedarg_new _ _ _ p3005 HI_3026.out rfl) hg.2), HKp.out.trans (Keep.trans HC_3025.out ((keep_alloc _ _).trans hg.2))⟩
            case measure => simp [intOf]; omega
        · have hlti : ¬ (k : Int) < (n : Int) := by omega
          obtain ⟨sa, sn, sc, rfl⟩ : ∃ sa sn sc, u24 = .slice sa sn sc := own_form HO_r.out
          go_wp2
          go_ret
          exact ⟨_, rfl, _, _, _, Bld.alloc HBr.out _, by simp; omega, by simpa using each_call _ (new_block _ _ _) (PosIs.keep HP_3rr.out (keep_alloc _ _)) (rowOf (World.ownsRow.alloc HO_r.out _) rfl) (Kids.keep HK_r.out (keep_alloc _ _)) (by have := HV.out; omega)⟩

end Go.Proofs.Qxb6003857aGreat
