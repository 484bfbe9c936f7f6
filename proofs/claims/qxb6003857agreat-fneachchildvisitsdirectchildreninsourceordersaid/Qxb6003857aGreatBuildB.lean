/-
  buildParent: block. (Written by wip/gen/build.py.)
-/
import Derived.Test.Qxb6003857aGreatMake
import Derived.Test.Qxb6003857aGreatEachA
import Derived.Test.Qxb6003857aGreatEachC
import Derived.Test.Qxb6003857aGreatEachE

namespace Go.Proofs.Qxb6003857aGreat
open Go.RowKit

set_option maxHeartbeats 8000000 in
set_option maxRecDepth 100000 in
theorem build0 {w1 w : World} {G E len : Nat} {a : Option Addr} {d : Nat → Nat} {base : Int} (f : Int) (n : Nat) (hn : n ≤ 8) (h : Bld w1 G E a len d w 0 base []) :
    Calls Tryz.prog 6 #[.int .u8 0, .int .u32 f, .int .i64 n, .pointer (some ⟨G, 0, none⟩), .pointer (some ⟨E, 0, none⟩)] w fun e w' => ∃ node, e = .returned node ∧ Built w1 G E a len d node w' := by
  have HB0 := hide h
  clear h
  go_enter Tryz.func6, Tryz.ntmps6
  go_wp2_with fail
  refine (bnext HB0.out (by omega)).mono ?_
  rintro e x1 ⟨q1, rfl, hq1, hB1, hS1⟩
  have HB_2 := hide hB1
  have hSz_2 := hS1.size
  clear hB1 hS1 hSz_2
  clear hq1
  obtain ⟨i0, hi0, hz0, hz1, hz2⟩ := info_parts info39
  go_wp2
  obtain ⟨W0, hW0⟩ : ∃ W0 : World, W0 = x1 := ⟨_, rfl⟩
  go_loopw [12, 13] (fun v i wr => ∃ (k : Nat) (vs : List Value) (ps : List Int) (ii : Nat) (cc : Int), k ≤ n ∧ i = .int .i64 k ∧ vs.length = k ∧ ii ≤ 20 + 10 * k ∧ Bld w1 G E a len d wr ii cc ([] ++ ps) ∧ ps.length ≤ k ∧ wr.ownsRow w1.heap.size 39 1 v vs.length vs ∧ Kids wr vs ps ∧ Keep W0 wr) (fun _ i _ => n - (intOf i).toNat)
  case atStart => exact ⟨0, [], [], 1, _, Nat.zero_le _, rfl, rfl, by omega, by have := HB_2.out; simpa using this, by simp, World.ownsRow_nil _ _ _ _, kids_nil _, by rw [hW0]; exact Keep.refl _⟩
  case round =>
    obtain ⟨k, vs, ps, ii, cc, hk, rfl, hvs, hii, hB, hps, hown, hK, hKp⟩ := hrel
    have HBr := hide hB
    have HO_r := hide hown
    have HK_r := hide hK
    have HKp := hide hKp
    have HV := hide hvs
    clear hB hown hK hKp hvs
    have hvl : vs.length ≤ 8 := by have := HV.out; omega
    by_cases hlt : k < n
    · have HC_r := hide (Keep.refl wr)
      have hlti : (k : Int) < (n : Int) := by omega
      go_wp2_with fail
      refine (stmt_any HBr.out (by omega) (by simp; omega)).mono ?_
      rintro e y1 ⟨bq, rfl, p, c1, hB1, hS1, hP1⟩
      have HB1 := hide hB1
      have HO1 := hide (own_stay HO_r.out hS1 (by decide) (by decide) (by decide))
      have HK1 := hide (Kids.keep HK_r.out hS1.keep)
      have HS1 := hide hS1
      have HP1 := hide hP1
      clear hB1 hS1 hP1 HO_r HK_r HBr
      go_wp2_with (at_builtin; go_must (refine wpList_append_lies _ rfl (.tmp 78) (.tmp 82) 37 rfl w1.heap.size 39 i0 .nilIface 1 16 Tryz.underlying37 hi0 hz0 hz1 hz2 rfl (by decide) u12 vs.length vs rfl (by exact World.ownsRow.alloc HO1.out _) ⟨y1.heap.size, 0, none⟩ 1 1 [.iface 129 (.pointer (some ⟨bq, 0, none⟩))] rfl (by simp) (by exact cell_one_new _ _ _) (by simp [Value.oneCell']) (by omega) (by unfold maxLen; omega) (by omega) (by have := (Bld.below HB1.out).size; simp; omega) _ rfl ?_; intro g2 cap2 z2 hown2 hgrow2 hat2 hlt2))
      have hg := Bld.grow HB1.out HO1.out hgrow2 (by decide) (by unfold NodeTag; decide)
      go_roundw
      case rel => exact ⟨k + 1, vs ++ [.iface 129 (.pointer (some ⟨bq, 0, none⟩))], ps ++ [p], ii + 2, _, by omega, by go_num, by simp [HV.out], by omega, by have := hg.1; simpa using this, by first | (simp; done) | (simp; omega), by simpa using hown2, Kids.snoc (Kids.keep HK1.out hg.2) (PosIs.keep HP1.out hg.2), HKp.out.trans (HS1.out.keep.trans hg.2)⟩
      case measure => simp [intOf]; omega
    · have hlti : ¬ (k : Int) < (n : Int) := by omega
      obtain ⟨sa, sn, sc, rfl⟩ : ∃ sa sn sc, u12 = .slice sa sn sc := own_form HO_r.out
      go_wp2
      go_ret
      exact ⟨_, rfl, _, _, _, Bld.alloc HBr.out _, by simp; omega, by simpa using each_block _ (new_block _ _ _) (rowOf (World.ownsRow.alloc HO_r.out _) rfl) (Kids.keep HK_r.out (keep_alloc _ _)) (by have := HV.out; omega)⟩

end Go.Proofs.Qxb6003857aGreat
