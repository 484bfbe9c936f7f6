/-
  buildParent: if, do, is, map entry. (Written by wip/gen/build.py.)
-/
import Derived.Test.Qxb6003857aGreatMake
import Derived.Test.Qxb6003857aGreatEachA
import Derived.Test.Qxb6003857aGreatEachC
import Derived.Test.Qxb6003857aGreatEachE

namespace Go.Proofs.Qxb6003857aGreat
open Go.RowKit

set_option maxHeartbeats 8000000 in
set_option maxRecDepth 100000 in
theorem build1 {w1 w : World} {G E len : Nat} {a : Option Addr} {d : Nat → Nat} {base : Int} (f : Int) (n : Nat) (_hn : n ≤ 8) (h : Bld w1 G E a len d w 0 base []) :
    Calls Tryz.prog 6 #[.int .u8 1, .int .u32 f, .int .i64 n, .pointer (some ⟨G, 0, none⟩), .pointer (some ⟨E, 0, none⟩)] w fun e w' => ∃ node, e = .returned node ∧ Built w1 G E a len d node w' := by
  have HB0 := hide h
  clear h
  go_enter Tryz.func6, Tryz.ntmps6
  go_wp2_with fail
  refine (bnext HB0.out (by omega)).mono ?_
  rintro e x1 ⟨q1, rfl, hq1, hB1, hS1⟩
  have HB_2 := hide hB1
  have hSz_2 := hS1.size
  clear hB1 hS1 hSz_2
  clear hq1
  go_wp2_with fail
  refine (expr_any HB_2.out (by omega) (by simp; try omega)).mono ?_
  rintro e x3 ⟨b3, rfl, p3, c3, hB3, hS3, hP3⟩
  have HB_4 := hide hB3
  have hSz_4 := hS3.size
  clear hB3 hS3 hSz_4
  have HP_5 := hide hP3
  clear hP3
  go_wp2_with fail
  refine (stmt_any HB_4.out (by omega) (by simp; try omega)).mono ?_
  rintro e x6 ⟨b6, rfl, p6, c6, hB6, hS6, hP6⟩
  have HB_7 := hide hB6
  have HP_8 := hide (PosIs.keep HP_5.out hS6.keep)
  clear HP_5
  have hSz_7 := hS6.size
  clear hB6 hS6 hSz_7
  have HP_9 := hide hP6
  clear hP6
  go_wp2_with fail
  refine (bit_int f (0) _ (by omega) (by omega)).mono ?_
  rintro e y10 ⟨t10, rfl, rfl⟩
  cases t10 with
  | false =>
    go_wp2
    go_ret
    exact ⟨_, rfl, _, _, _, Bld.alloc HB_7.out _, by simp; try omega, by simpa using each_if _ (new_block _ _ _) (PosIs.keep HP_8.out (keep_alloc _ _)) (PosIs.keep HP_9.out (keep_alloc _ _))⟩
  | true =>
    go_wp2_with fail
    refine (bnext HB_7.out (by omega)).mono ?_
    rintro e x11 ⟨q11, rfl, hq11, hB11, hS11⟩
    have HB_12 := hide hB11
    have HP_13 := hide (PosIs.keep HP_8.out hS11.keep)
    clear HP_8
    have HP_14 := hide (PosIs.keep HP_9.out hS11.keep)
    clear HP_9
    have hSz_12 := hS11.size
    clear hB11 hS11 hSz_12
    clear hq11
    go_wp2_with fail
    refine (stmt_any HB_12.out (by omega) (by simp; try omega)).mono ?_
    rintro e x15 ⟨b15, rfl, p15, c15, hB15, hS15, hP15⟩
    have HB_16 := hide hB15
    have HP_17 := hide (PosIs.keep HP_13.out hS15.keep)
    clear HP_13
    have HP_18 := hide (PosIs.keep HP_14.out hS15.keep)
    clear HP_14
    have hSz_16 := hS15.size
    clear hB15 hS15 hSz_16
    have HP_19 := hide hP15
    clear hP15
    go_wp2
    go_ret
    exact ⟨_, rfl, _, _, _, Bld.alloc HB_16.out _, by simp; try omega, by simpa using each_ifelse _ (new_block _ _ _) (PosIs.keep HP_17.out (keep_alloc _ _)) (PosIs.keep HP_18.out (keep_alloc _ _)) (PosIs.keep HP_19.out (keep_alloc _ _))⟩

set_option maxHeartbeats 8000000 in
set_option maxRecDepth 100000 in
theorem build2 {w1 w : World} {G E len : Nat} {a : Option Addr} {d : Nat → Nat} {base : Int} (f : Int) (n : Nat) (_hn : n ≤ 8) (h : Bld w1 G E a len d w 0 base []) :
    Calls Tryz.prog 6 #[.int .u8 2, .int .u32 f, .int .i64 n, .pointer (some ⟨G, 0, none⟩), .pointer (some ⟨E, 0, none⟩)] w fun e w' => ∃ node, e = .returned node ∧ Built w1 G E a len d node w' := by
  have HB0 := hide h
  clear h
  go_enter Tryz.func6, Tryz.ntmps6
  go_wp2_with fail
  refine (bnext HB0.out (by omega)).mono ?_
  rintro e x1 ⟨q1, rfl, hq1, hB1, hS1⟩
  have HB_2 := hide hB1
  have hSz_2 := hS1.size
  clear hB1 hS1 hSz_2
  clear hq1
  go_wp2_with fail
  refine (body_any HB_2.out (by omega) (by simp; try omega)).mono ?_
  rintro e x3 ⟨b3, rfl, p3, c3, hB3, hS3, hP3⟩
  have HB_4 := hide hB3
  have hSz_4 := hS3.size
  clear hB3 hS3 hSz_4
  have HP_5 := hide hP3
  clear hP3
  go_wp2_with fail
  refine (bnext HB_4.out (by omega)).mono ?_
  rintro e x6 ⟨q6, rfl, hq6, hB6, hS6⟩
  have HB_7 := hide hB6
  have HP_8 := hide (PosIs.keep HP_5.out hS6.keep)
  clear HP_5
  have hSz_7 := hS6.size
  clear hB6 hS6 hSz_7
  clear hq6
  go_wp2_with fail
  refine (expr_any HB_7.out (by omega) (by simp; try omega)).mono ?_
  rintro e x9 ⟨b9, rfl, p9, c9, hB9, hS9, hP9⟩
  have HB_10 := hide hB9
  have HP_11 := hide (PosIs.keep HP_8.out hS9.keep)
  clear HP_8
  have hSz_10 := hS9.size
  clear hB9 hS9 hSz_10
  have HP_12 := hide hP9
  clear hP9
  go_wp2
  go_ret
  exact ⟨_, rfl, _, _, _, Bld.alloc HB_10.out _, by simp; try omega, by simpa using each_do _ (new_block _ _ _) (PosIs.keep HP_11.out (keep_alloc _ _)) (PosIs.keep HP_12.out (keep_alloc _ _))⟩

set_option maxHeartbeats 8000000 in
set_option maxRecDepth 100000 in
theorem build4 {w1 w : World} {G E len : Nat} {a : Option Addr} {d : Nat → Nat} {base : Int} (f : Int) (n : Nat) (_hn : n ≤ 8) (h : Bld w1 G E a len d w 0 base []) :
    Calls Tryz.prog 6 #[.int .u8 4, .int .u32 f, .int .i64 n, .pointer (some ⟨G, 0, none⟩), .pointer (some ⟨E, 0, none⟩)] w fun e w' => ∃ node, e = .returned node ∧ Built w1 G E a len d node w' := by
  have HB0 := hide h
  clear h
  go_enter Tryz.func6, Tryz.ntmps6
  go_wp2_with fail
  refine (expr_any HB0.out (by omega) (by simp; try omega)).mono ?_
  rintro e x1 ⟨b1, rfl, p1, c1, hB1, hS1, hP1⟩
  have HB_2 := hide hB1
  have hSz_2 := hS1.size
  clear hB1 hS1 hSz_2
  have HP_3 := hide hP1
  clear hP1
  go_wp2_with fail
  refine (bnext HB_2.out (by omega)).mono ?_
  rintro e x4 ⟨q4, rfl, hq4, hB4, hS4⟩
  have HB_5 := hide hB4
  have HP_6 := hide (PosIs.keep HP_3.out hS4.keep)
  clear HP_3
  have hSz_5 := hS4.size
  clear hB4 hS4 hSz_5
  clear hq4
  go_wp2_with fail
  refine (bnext HB_5.out (by omega)).mono ?_
  rintro e x7 ⟨q7, rfl, hq7, hB7, hS7⟩
  have HB_8 := hide hB7
  have HP_9 := hide (PosIs.keep HP_6.out hS7.keep)
  clear HP_6
  have hSz_8 := hS7.size
  clear hB7 hS7 hSz_8
  clear hq7
  go_wp2_with fail
  refine (named_at (q7) _).mono ?_
  rintro e y10 ⟨bn10, rfl, hst10, hbl10⟩
  have HB_11 := hide (hbl10 HB_8.out)
  have HP_12 := hide (PosIs.keep HP_9.out hst10.keep)
  clear HP_9
  clear hst10 hbl10
  go_wp2_with fail
  refine (bit_int f (0) _ (by omega) (by omega)).mono ?_
  rintro e y13 ⟨t13, rfl, rfl⟩
  go_wp2
  go_ret
  exact ⟨_, rfl, _, _, _, Bld.alloc HB_11.out _, by simp; try omega, by simpa using each_is _ (new_block _ _ _) (PosIs.keep HP_12.out (keep_alloc _ _))⟩

set_option maxHeartbeats 8000000 in
set_option maxRecDepth 100000 in
theorem build5 {w1 w : World} {G E len : Nat} {a : Option Addr} {d : Nat → Nat} {base : Int} (f : Int) (n : Nat) (_hn : n ≤ 8) (h : Bld w1 G E a len d w 0 base []) :
    Calls Tryz.prog 6 #[.int .u8 5, .int .u32 f, .int .i64 n, .pointer (some ⟨G, 0, none⟩), .pointer (some ⟨E, 0, none⟩)] w fun e w' => ∃ node, e = .returned node ∧ Built w1 G E a len d node w' := by
  have HB0 := hide h
  clear h
  go_enter Tryz.func6, Tryz.ntmps6
  go_wp2_with fail
  refine (bit_int f (0) _ (by omega) (by omega)).mono ?_
  rintro e y1 ⟨t1, rfl, rfl⟩
  cases t1 with
  | false =>
    go_wp2_with fail
    refine (expr_any HB0.out (by omega) (by simp; try omega)).mono ?_
    rintro e x2 ⟨b2, rfl, p2, c2, hB2, hS2, hP2⟩
    have HB_3 := hide hB2
    have hSz_3 := hS2.size
    clear hB2 hS2 hSz_3
    have HP_4 := hide hP2
    clear hP2
    go_wp2_with fail
    refine (bit_int f (1) _ (by omega) (by omega)).mono ?_
    rintro e y5 ⟨t5, rfl, rfl⟩
    cases t5 with
    | false =>
      go_wp2_with fail
      refine (expr_any HB_3.out (by omega) (by simp; try omega)).mono ?_
      rintro e x6 ⟨b6, rfl, p6, c6, hB6, hS6, hP6⟩
      have HB_7 := hide hB6
      have HP_8 := hide (PosIs.keep HP_4.out hS6.keep)
      clear HP_4
      have hSz_7 := hS6.size
      clear hB6 hS6 hSz_7
      have HP_9 := hide hP6
      clear hP6
      go_wp2
      go_ret
      exact ⟨_, rfl, _, _, _, Bld.alloc HB_7.out _, by simp; try omega, by simpa using each_mapentry _ (new_block _ _ _) (PosIs.keep HP_8.out (keep_alloc _ _)) (PosIs.keep HP_9.out (keep_alloc _ _))⟩
    | true =>
      go_wp2_with fail
      refine (bnext HB_3.out (by omega)).mono ?_
      rintro e x6 ⟨q6, rfl, hq6, hB6, hS6⟩
      have HB_7 := hide hB6
      have HP_8 := hide (PosIs.keep HP_4.out hS6.keep)
      clear HP_4
      have hSz_7 := hS6.size
      clear hB6 hS6 hSz_7
      clear hq6
      go_wp2_with fail
      refine (expr_any HB_7.out (by omega) (by simp; try omega)).mono ?_
      rintro e x9 ⟨b9, rfl, p9, c9, hB9, hS9, hP9⟩
      have HB_10 := hide hB9
      have HP_11 := hide (PosIs.keep HP_8.out hS9.keep)
      clear HP_8
      have hSz_10 := hS9.size
      clear hB9 hS9 hSz_10
      have HP_12 := hide hP9
      clear hP9
      go_wp2
      go_ret
      exact ⟨_, rfl, _, _, _, Bld.alloc HB_10.out _, by simp; try omega, by simpa using each_mapentry _ (new_block _ _ _) (PosIs.keep HP_11.out (keep_alloc _ _)) (PosIs.keep HP_12.out (keep_alloc _ _))⟩
  | true =>
    go_wp2_with fail
    refine (bnext HB0.out (by omega)).mono ?_
    rintro e x2 ⟨q2, rfl, hq2, hB2, hS2⟩
    have HB_3 := hide hB2
    have hSz_3 := hS2.size
    clear hB2 hS2 hSz_3
    clear hq2
    go_wp2_with fail
    refine (expr_any HB_3.out (by omega) (by simp; try omega)).mono ?_
    rintro e x4 ⟨b4, rfl, p4, c4, hB4, hS4, hP4⟩
    have HB_5 := hide hB4
    have hSz_5 := hS4.size
    clear hB4 hS4 hSz_5
    have HP_6 := hide hP4
    clear hP4
    go_wp2_with fail
    refine (bit_int f (1) _ (by omega) (by omega)).mono ?_
    rintro e y7 ⟨t7, rfl, rfl⟩
    cases t7 with
    | false =>
      go_wp2_with fail
      refine (expr_any HB_5.out (by omega) (by simp; try omega)).mono ?_
      rintro e x8 ⟨b8, rfl, p8, c8, hB8, hS8, hP8⟩
      have HB_9 := hide hB8
      have HP_10 := hide (PosIs.keep HP_6.out hS8.keep)
      clear HP_6
      have hSz_9 := hS8.size
      clear hB8 hS8 hSz_9
      have HP_11 := hide hP8
      clear hP8
      go_wp2
      go_ret
      exact ⟨_, rfl, _, _, _, Bld.alloc HB_9.out _, by simp; try omega, by simpa using each_mapentry _ (new_block _ _ _) (PosIs.keep HP_10.out (keep_alloc _ _)) (PosIs.keep HP_11.out (keep_alloc _ _))⟩
    | true =>
      go_wp2_with fail
      refine (bnext HB_5.out (by omega)).mono ?_
      rintro e x8 ⟨q8, rfl, hq8, hB8, hS8⟩
      have HB_9 := hide hB8
      have HP_10 := hide (PosIs.keep HP_6.out hS8.keep)
      clear HP_6
      have hSz_9 := hS8.size
      clear hB8 hS8 hSz_9
      clear hq8
      go_wp2_with fail
      refine (expr_any HB_9.out (by omega) (by simp; try omega)).mono ?_
      rintro e x11 ⟨b11, rfl, p11, c11, hB11, hS11, hP11⟩
      have HB_12 := hide hB11
      have HP_13 := hide (PosIs.keep HP_10.out hS11.keep)
      clear HP_10
      have hSz_12 := hS11.size
      clear hB11 hS11 hSz_12
      have HP_14 := hide hP11
      clear hP11
      go_wp2
      go_ret
      exact ⟨_, rfl, _, _, _, Bld.alloc HB_12.out _, by simp; try omega, by simpa using each_mapentry _ (new_block _ _ _) (PosIs.keep HP_13.out (keep_alloc _ _)) (PosIs.keep HP_14.out (keep_alloc _ _))⟩

end Go.Proofs.Qxb6003857aGreat
