/-
  The makers of children: ident, named, innerStmt, exprChild, stmtChild, bodyBlock, unvisitedBlock, bit.
-/
import Derived.Test.Qxb6003857aGreatBld
namespace Go.Proofs.Qxb6003857aGreat
open Go.RowKit

/-- A direct child, and its place. -/
def PosIs (w : World) (c : Value) (p : Int) : Prop :=
  ∃ T t b : Nat, c = .iface T (.pointer (some ⟨b, 0, none⟩)) ∧
    ((((T = 177 ∧ t = 179) ∨ (T = 129 ∧ t = 131) ∨ (T = 41 ∧ t = 43) ∨ (T = 79 ∧ t = 82) ∨ (T = 103 ∧ t = 105)) ∧ ∃ cs : Array Value, w.heap[b]? = some (.cells cs t (0, 0)) ∧ cs[0]? = some (.int .i64 p)) ∨
     ((T = 62 ∧ t = 64) ∧ ∃ (cs cs' : Array Value) (b' : Nat), w.heap[b]? = some (.cells cs 64 (0, 0)) ∧ cs[0]? = some (.pointer (some ⟨b', 0, none⟩)) ∧ w.heap[b']? = some (.cells cs' 216 (0, 0)) ∧ cs'[0]? = some (.int .i64 p)))

theorem PosIs.stay {w w' : World} {c : Value} {p : Int} (h : PosIs w c p) (hs : Stay w w') : PosIs w' c p := by
  obtain ⟨T, t, b, hc, ⟨ht, cs, hb, h0⟩ | ⟨ht, cs, cs', b', hb, h0, hb', h0'⟩⟩ := h
  · have hne : t ≠ 3 ∧ t ≠ 28 ∧ t ≠ 29 := by
      rcases ht with ⟨_, rfl⟩ | ⟨_, rfl⟩ | ⟨_, rfl⟩ | ⟨_, rfl⟩ | ⟨_, rfl⟩ <;> decide
    exact ⟨T, t, b, hc, Or.inl ⟨ht, cs, hs.at_ hb hne.1 hne.2.1 hne.2.2, h0⟩⟩
  · exact ⟨T, t, b, hc, Or.inr ⟨ht, cs, cs', b', hs.at_ hb (by decide) (by decide) (by decide), h0, hs.at_ hb' (by decide) (by decide) (by decide), h0'⟩⟩

/-- A new block of one of the five plain kinds. -/
theorem pos_new (w : World) (T t b : Nat) (cs : Array Value) (p : Int) (hT : (T = 177 ∧ t = 179) ∨ (T = 129 ∧ t = 131) ∨ (T = 41 ∧ t = 43) ∨ (T = 79 ∧ t = 82) ∨ (T = 103 ∧ t = 105)) (h0 : cs[0]? = some (.int .i64 p)) (hb : b = w.heap.size) :
    PosIs (w.alloc (.cells cs t)) (.iface T (.pointer (some ⟨b, 0, none⟩))) p := by
  subst hb
  exact ⟨T, t, _, rfl, Or.inl ⟨hT, cs, (MapKept.heap_alloc w _).1, h0⟩⟩

theorem ident_any (p : Int) (w : World) : Calls Tryz.prog 15 #[.int .i64 p] w fun e w' => e = .returned (.pointer (some ⟨w.heap.size, 0, none⟩)) ∧ w' = w.alloc (.cells #[.int .i64 p, .string ⟨#[120]⟩] 216) := by
  go_enter Tryz.func15, Tryz.ntmps15
  go_wp2
  go_ret
  exact ⟨rfl, rfl⟩

theorem named_any (p : Int) (w : World) : Calls Tryz.prog 14 #[.int .i64 p] w fun e w' => ∃ b, e = .returned (.pointer (some ⟨b, 0, none⟩)) ∧ ∃ o1 o2, w' = (w.alloc o1).alloc o2 := by
  go_enter Tryz.func14, Tryz.ntmps14
  go_wp2
  go_ret
  exact ⟨_, rfl, _, _, rfl⟩

set_option maxHeartbeats 400000 in
theorem bit_any (f : Int) (i : Nat) (w : World) (hi : i < 64) : Calls Tryz.prog 12 #[.int .u32 f, .int .i64 i] w fun e w' => ∃ b : Bool, e = .returned (.bool b) ∧ w' = w := by
  go_enter Tryz.func12, Tryz.ntmps12
  go_wp2
  go_ret
  exact ⟨_, rfl, rfl⟩

section
variable {w1 w : World} {G E len i : Nat} {a : Option Addr} {d : Nat → Nat} {cur : Int} {xs : List Int}

set_option maxHeartbeats 400000 in
theorem inner_any (h : Bld w1 G E a len d w i cur xs) (hi : i < 990) :
    Calls Tryz.prog 21 #[.pointer (some ⟨G, 0, none⟩)] w fun e w' => ∃ (c : Value) (cur' : Int), e = .returned c ∧ (∃ b, c = .iface 129 (.pointer (some ⟨b, 0, none⟩))) ∧ Bld w1 G E a len d w' (i + 2) cur' xs ∧ Stay w w' := by
  have HB : Hid (Bld w1 G E a len d w i cur xs) := h
  clear h
  go_enter Tryz.func21, Tryz.ntmps21
  go_wp2_with fail
  refine (bnext HB.out (by omega)).mono ?_
  rintro e w2 ⟨p, rfl, hp, hB, hS⟩
  have HB2 : Hid (Bld w1 G E a len d w2 (i + 1) p xs) := hB
  have HS : Hid (Stay w w2) := hS
  clear hB hS
  go_wp2_with fail
  refine (bnext HB2.out (by omega)).mono ?_
  rintro e w3 ⟨p2, rfl, hp2, hB, hS⟩
  have HB3 : Hid (Bld w1 G E a len d w3 (i + 2) p2 xs) := hB
  have HS3 : Hid (Stay w w3) := HS.out.trans hS
  clear hB hS HB2 HS
  go_wp2_with (go_at_call 15; refine (ident_any _ _).mono ?_; rintro e w4 ⟨rfl, rfl⟩)
  go_ret
  exact ⟨_, _, rfl, ⟨_, rfl⟩, (HB3.out.alloc _).alloc _, (HS3.out.alloc _).alloc _⟩

/-- What a maker of one direct child leaves: its place p is the last that was laid. -/
def Made (w1 : World) (G E : Nat) (a : Option Addr) (len : Nat) (d : Nat → Nat) (w : World) (i n : Nat) (xs : List Int) (c : Value) (w' : World) : Prop :=
  ∃ p cur', Bld w1 G E a len d w' (i + n) cur' (xs ++ [p]) ∧ Stay w w' ∧ PosIs w' c p

set_option maxHeartbeats 400000 in
theorem expr_any (h : Bld w1 G E a len d w i cur xs) (hi : i < 900) (hx : xs.length ≤ 900) :
    Calls Tryz.prog 11 #[.pointer (some ⟨G, 0, none⟩), .pointer (some ⟨E, 0, none⟩)] w fun e w' => ∃ b, e = .returned (.iface 177 (.pointer (some ⟨b, 0, none⟩))) ∧ Made w1 G E a len d w i 2 xs (.iface 177 (.pointer (some ⟨b, 0, none⟩))) w' := by
  have HB : Hid (Bld w1 G E a len d w i cur xs) := h
  clear h
  go_enter Tryz.func11, Tryz.ntmps11
  go_wp2_with fail
  refine (bvisit HB.out (by omega) (by omega)).mono ?_
  rintro e w2 ⟨p, rfl, hB, hS⟩
  have HB2 : Hid (Bld w1 G E a len d w2 (i + 1) p (xs ++ [p])) := hB
  have HS : Hid (Stay w w2) := hS
  clear hB hS
  go_wp2_with fail
  refine (bnext HB2.out (by omega)).mono ?_
  rintro e w3 ⟨p2, rfl, hp2, hB, hS⟩
  have HB3 : Hid (Bld w1 G E a len d w3 (i + 2) p2 (xs ++ [p])) := hB
  have HS3 : Hid (Stay w w3) := HS.out.trans hS
  clear hB hS HB2 HS
  go_wp2_with (go_at_call 15; refine (ident_any _ _).mono ?_; rintro e w4 ⟨rfl, rfl⟩)
  go_ret
  refine ⟨_, rfl, p, p2, (HB3.out.alloc _).alloc _, (HS3.out.alloc _).alloc _, pos_new _ 177 179 _ _ p (by decide) rfl (by simp)⟩

set_option maxHeartbeats 400000 in
theorem stmt_any (h : Bld w1 G E a len d w i cur xs) (hi : i < 900) (hx : xs.length ≤ 900) :
    Calls Tryz.prog 10 #[.pointer (some ⟨G, 0, none⟩), .pointer (some ⟨E, 0, none⟩)] w fun e w' => ∃ b, e = .returned (.iface 129 (.pointer (some ⟨b, 0, none⟩))) ∧ Made w1 G E a len d w i 2 xs (.iface 129 (.pointer (some ⟨b, 0, none⟩))) w' := by
  have HB : Hid (Bld w1 G E a len d w i cur xs) := h
  clear h
  go_enter Tryz.func10, Tryz.ntmps10
  go_wp2_with fail
  refine (bvisit HB.out (by omega) (by omega)).mono ?_
  rintro e w2 ⟨p, rfl, hB, hS⟩
  have HB2 : Hid (Bld w1 G E a len d w2 (i + 1) p (xs ++ [p])) := hB
  have HS : Hid (Stay w w2) := hS
  clear hB hS
  go_wp2_with fail
  refine (bnext HB2.out (by omega)).mono ?_
  rintro e w3 ⟨p2, rfl, hp2, hB, hS⟩
  have HB3 : Hid (Bld w1 G E a len d w3 (i + 2) p2 (xs ++ [p])) := hB
  have HS3 : Hid (Stay w w3) := HS.out.trans hS
  clear hB hS HB2 HS
  go_wp2_with (go_at_call 15; refine (ident_any _ _).mono ?_; rintro e w4 ⟨rfl, rfl⟩)
  go_ret
  refine ⟨_, rfl, p, p2, (HB3.out.alloc _).alloc _, (HS3.out.alloc _).alloc _, pos_new _ 129 131 _ _ p (by decide) rfl (by simp)⟩

set_option maxHeartbeats 400000 in
theorem body_any (h : Bld w1 G E a len d w i cur xs) (hi : i < 900) (hx : xs.length ≤ 900) :
    Calls Tryz.prog 13 #[.pointer (some ⟨G, 0, none⟩), .pointer (some ⟨E, 0, none⟩)] w fun e w' => ∃ b, e = .returned (.pointer (some ⟨b, 0, none⟩)) ∧ Made w1 G E a len d w i 3 xs (.iface 41 (.pointer (some ⟨b, 0, none⟩))) w' := by
  have HB : Hid (Bld w1 G E a len d w i cur xs) := h
  clear h
  go_enter Tryz.func13, Tryz.ntmps13
  go_wp2_with fail
  refine (bvisit HB.out (by omega) (by omega)).mono ?_
  rintro e w2 ⟨p, rfl, hB, hS⟩
  have HB2 : Hid (Bld w1 G E a len d w2 (i + 1) p (xs ++ [p])) := hB
  have HS : Hid (Stay w w2) := hS
  clear hB hS
  go_wp2_with fail
  refine (inner_any HB2.out (by omega)).mono ?_
  rintro e w3 ⟨c, p2, rfl, ⟨b, rfl⟩, hB, hS⟩
  have HB3 : Hid (Bld w1 G E a len d w3 (i + 3) p2 (xs ++ [p])) := hB
  have HS3 : Hid (Stay w w3) := HS.out.trans hS
  clear hB hS HB2 HS
  go_wp2
  go_ret
  refine ⟨_, rfl, p, p2, (HB3.out.alloc _).alloc _, (HS3.out.alloc _).alloc _, pos_new _ 41 43 _ _ p (by decide) rfl (by simp)⟩

set_option maxHeartbeats 400000 in
theorem unvisited_any (h : Bld w1 G E a len d w i cur xs) (hi : i < 900) :
    Calls Tryz.prog 17 #[.pointer (some ⟨G, 0, none⟩)] w fun e w' => ∃ b cur', e = .returned (.pointer (some ⟨b, 0, none⟩)) ∧ Bld w1 G E a len d w' (i + 3) cur' xs ∧ Stay w w' := by
  have HB : Hid (Bld w1 G E a len d w i cur xs) := h
  clear h
  go_enter Tryz.func17, Tryz.ntmps17
  go_wp2_with fail
  refine (bnext HB.out (by omega)).mono ?_
  rintro e w2 ⟨p, rfl, hp, hB, hS⟩
  have HB2 : Hid (Bld w1 G E a len d w2 (i + 1) p xs) := hB
  have HS : Hid (Stay w w2) := hS
  clear hB hS
  go_wp2_with fail
  refine (inner_any HB2.out (by omega)).mono ?_
  rintro e w3 ⟨c, p2, rfl, ⟨b, rfl⟩, hB, hS⟩
  have HB3 : Hid (Bld w1 G E a len d w3 (i + 3) p2 xs) := hB
  have HS3 : Hid (Stay w w3) := HS.out.trans hS
  clear hB hS HB2 HS
  go_wp2
  go_ret
  exact ⟨_, p2, rfl, (HB3.out.alloc _).alloc _, (HS3.out.alloc _).alloc _⟩

end
end Go.Proofs.Qxb6003857aGreat
