/-
  THE LAW ON EachChild: the walk.
-/
import Derived.Test.Qxb6003857aGreatClone
import Derived.Test.Qxb6003857aGreatBuildA
import Derived.Test.Qxb6003857aGreatBuildB
import Derived.Test.Qxb6003857aGreatBuildC
import Derived.Test.Qxb6003857aGreatBuildD
import Derived.Test.Qxb6003857aGreatBuildF
import Derived.Test.Qxb6003857aGreatBuildG
import Derived.Test.Qxb6003857aGreatBuildH
namespace Go.Proofs.Qxb6003857aGreat
open Go.RowKit

/-- buildParent, whatever the kind. -/
theorem build_any {w1 w : World} {G E len : Nat} {a : Option Addr} {d : Nat → Nat} {base : Int} (κ : Nat) (hκ : κ < 10) (f : Int) (n : Nat) (hn : n ≤ 8) (h : Bld w1 G E a len d w 0 base []) :
    Calls Tryz.prog 6 #[.int .u8 κ, .int .u32 f, .int .i64 n, .pointer (some ⟨G, 0, none⟩), .pointer (some ⟨E, 0, none⟩)] w fun e w' => ∃ node, e = .returned node ∧ Built w1 G E a len d node w' := by
  have : κ = 0 ∨ κ = 1 ∨ κ = 2 ∨ κ = 3 ∨ κ = 4 ∨ κ = 5 ∨ κ = 6 ∨ κ = 7 ∨ κ = 8 ∨ κ = 9 := by omega
  rcases this with rfl | rfl | rfl | rfl | rfl | rfl | rfl | rfl | rfl | rfl
  · exact build0 f n hn h
  · exact build1 f n hn h
  · exact build2 f n hn h
  · exact build3 f n hn h
  · exact build4 f n hn h
  · exact build5 f n hn h
  · exact build6 f n hn h
  · exact build7 f n hn h
  · exact build8 f n hn h
  · exact build9 f n hn h

theorem great_big (a0 a1 a2 a3 : Int) (a4 : Option Addr) (len cap : Nat) (w : World) (h : 65536 < len ∨ a3 < 0 ∨ 1048576 < a3) (hm : len ≤ maxLen) :
    Calls Tryz.prog 3 #[.int .u8 a0, .int .u32 a1, .int .u8 a2, .int .i64 a3, .slice a4 len cap] w fun e w' => e = .returned (.bool true) ∧ Below w.heap.size w w' := by
  unfold maxLen at hm
  by_cases h2 : len ≤ 1048576
  · by_cases h3 : len ≤ 65536
    · by_cases h4 : a3 < 0
      · go_enter Tryz.func3, Tryz.ntmps3
        go_wp2
        go_ret
        exact ⟨rfl, Below.refl _ _⟩
      · have h5 : 1048576 < a3 := by omega
        go_enter Tryz.func3, Tryz.ntmps3
        go_wp2
        go_ret
        exact ⟨rfl, Below.refl _ _⟩
    · clear h
      go_enter Tryz.func3, Tryz.ntmps3
      go_wp2
      go_ret
      exact ⟨rfl, Below.refl _ _⟩
  · clear h
    go_enter Tryz.func3, Tryz.ntmps3
    go_wp2
    go_ret
    exact ⟨rfl, Below.refl _ _⟩

/-- How the making begins. -/
theorem Bld.start {w1 : World} {len : Nat} {a : Option Addr} {d : Nat → Nat} {base : Int} (hb : 0 ≤ base) (hb2 : base ≤ 1048576) (hl : len ≤ 65536) (hd : ∀ k, d k < 256) (hs : len = 0 ∨ ∃ b, a = some ⟨b, 0, none⟩ ∧ w1.rowIs b 5 len (fun k => .int .u8 (d k))) :
    Bld w1 w1.heap.size (w1.heap.size + 1) a len d ((w1.alloc (.cells #[.slice a len len, .int .i64 0, .int .i64 base] 28)).alloc (.cells #[.slice none 0 0] 29)) 0 base [] where
  below := ((Below.refl _ _).alloc (Nat.le_refl _) _).alloc (by simp) _
  hG := Nat.le_refl _
  hGE := by omega
  gen := by
    refine ⟨(World.rowIs_alloc w1 _ 28 _ (fun i hi => ?_)).alloc _, ?_, hd, hl⟩
    · have : i = 0 ∨ i = 1 ∨ i = 2 := by simp at hi; omega
      rcases this with rfl | rfl | rfl <;> rfl
    · rcases hs with h0 | ⟨b, hb, hr⟩
      · exact Or.inl h0
      · exact Or.inr ⟨b, hb, (hr.alloc _).alloc _⟩
  expv := by
    refine ⟨.slice none 0 0, ?_, World.ownsRow_nil _ _ _ _⟩
    have h := World.rowIs_alloc (w1.alloc (.cells #[.slice a len len, .int .i64 0, .int .i64 base] 28)) #[.slice none 0 0] 29 (fun _ => .slice none 0 0) (fun i hi => by
      have : i = 0 := by simpa using hi
      subst this; rfl)
    rwa [World.size_alloc] at h
  inc := List.Pairwise.nil
  top := fun x hx => by cases hx
  bd := ⟨hb, by omega⟩

/-- A slice of ints, element by element. -/
theorem ints_of {w : World} {base : Nat} {v : Value} {xs : List Int} (h : w.ownsRow base 3 1 v xs.length (xs.map (fun x => Value.int .i64 x))) : ∃ a cap g, v = .slice a xs.length cap ∧ ∀ k, k < xs.length → a = some ⟨g, 0, none⟩ ∧ w.cell? ⟨g, k, none⟩ = some (.int .i64 (xs.getD k 0)) := by
  obtain ⟨a, cap, g, hv, hr⟩ := rowOf h (by simp)
  rw [List.length_map] at hv hr
  refine ⟨a, cap, g, hv, fun k hk => ⟨(hr k hk).1, ?_⟩⟩
  rw [(hr k hk).2]
  simp [List.getD, hk]

set_option maxHeartbeats 4000000 in
set_option maxRecDepth 100000 in
theorem great_small (a0 a1 a2 a3 : Int) (a4 : Option Addr) (len cap : Nat) (z4 : List Int) (w : World) (h0 : 0 ≤ a0 ∧ a0 ≤ 255) (h2 : 0 ≤ a2 ∧ a2 ≤ 255) (hl : len ≤ 65536) (hb : 0 ≤ a3) (hb2 : a3 ≤ 1048576) (w4 : IsRow .u8 w a4 len cap z4) :
    Calls Tryz.prog 3 #[.int .u8 a0, .int .u32 a1, .int .u8 a2, .int .i64 a3, .slice a4 len cap] w fun e w' => e = .returned (.bool true) ∧ Below w.heap.size w w' := by
  have W4 := hide w4
  clear w4
  go_enter Tryz.func3, Tryz.ntmps3
  go_wp2_with (first
    | (go_at_call 5; refine (clone_any _ _ _ _ _ W4.out hl).mono ?_; rintro e x1 ⟨a', d, rfl, hB1, hd, hs⟩)
    | (go_at_call 4; go_in))
  have HBs := hide (Bld.start (base := a3) hb hb2 hl hd hs)
  clear hd hs
  obtain ⟨κ, hκ, hκ10⟩ : ∃ κ : Nat, a0 % 10 = κ ∧ κ < 10 := ⟨(a0 % 10).toNat, by omega, by omega⟩
  obtain ⟨n, hn, hn8⟩ : ∃ n : Nat, a2 % 9 = n ∧ n ≤ 8 := ⟨(a2 % 9).toNat, by omega, by omega⟩
  rw [hκ, hn]
  clear hκ hn
  refine (build_any κ hκ10 a1 n hn8 HBs.out).mono ?_
  rintro e x2 ⟨node, rfl, i, cur, xs, hB, hx, hV⟩
  have HB2 := hide hB
  have hG0 : GotIs (x2.alloc (.cells #[.slice none 0 0] 29)) x2.heap.size [] := ⟨.slice none 0 0, World.rowIs_alloc x2 #[.slice none 0 0] 29 (fun _ => .slice none 0 0) (fun i hi => by
    have : i = 0 := by simpa using hi
    subst this; rfl), World.ownsRow_nil _ _ _ _⟩
  have hVis := hV x2.heap.size [] _ (Nat.le_refl _) ((Below.refl _ _).alloc (Nat.le_refl _) _) hG0 (by simp; omega)
  have HVi := hide hVis
  clear hB hV hVis hG0 HBs
  unfold fnR at HVi
  go_wp2_with fail
  refine Calls.mono HVi.out ?_
  rintro e x3 ⟨rfl, hG3, hB3⟩
  rw [List.nil_append] at hG3
  obtain ⟨v1, hR1, ho1⟩ := hG3
  obtain ⟨a5, cap5, g5, rfl, hr5⟩ := ints_of ho1
  obtain ⟨v2, hE2, ho2⟩ := HB2.out.expv
  obtain ⟨a6, cap6, g6, rfl, hr6⟩ := ints_of ho2
  have hB23 : Below x2.heap.size x2 x3 := ((Below.refl _ _).alloc (Nat.le_refl _) _).trans hB3
  have hBw : Below w.heap.size w x3 := hB1.trans ((HB2.out.below.trans (hB23.mono HB2.out.below.size)).mono hB1.size)
  have cR : x3.cell? ⟨x2.heap.size, 0, none⟩ = some (.slice a5 xs.length cap5) := hR1.cell (i := 0) (by omega)
  have cE : x3.cell? ⟨x1.heap.size + 1, 0, none⟩ = some (.slice a6 xs.length cap6) := cell_later hB23 (hE2.cell (i := 0) (by omega))
  have HR5 := hide hr5
  have HR6 : Hid (∀ k, k < xs.length → a6 = some ⟨g6, 0, none⟩ ∧ x3.cell? ⟨g6, k, none⟩ = some (.int .i64 (xs.getD k 0))) := fun k hk => ⟨(hr6 k hk).1, cell_later hB23 (hr6 k hk).2⟩
  have HInc := hide HB2.out.inc
  clear hR1 ho1 hE2 ho2 hr5 hr6 hB23 hB3 HVi HB2 hb hb2 W4
  go_wp2
  go_loopw [16] (fun i wr => ∃ k : Nat, k ≤ xs.length ∧ i = .int .i64 k ∧ wr.os = x3.os ∧ wr.tape = x3.tape ∧ wr.output = x3.output ∧ wr.heap = x3.heap) (fun i _ => xs.length - (intOf i).toNat)
  case atStart => exact ⟨0, Nat.zero_le _, rfl, rfl, rfl, rfl, rfl⟩
  case round =>
    obtain ⟨k, hk, rfl, e1, e2, e3, e4⟩ := hrel
    have hcx : ∀ a, wr.cell? a = x3.cell? a := fun a => by simp only [World.cell?, e4]
    have c1 : wr.cell? ⟨x2.heap.size, 0, none⟩ = some (.slice a5 xs.length cap5) := (hcx _).trans cR
    have c2 : wr.cell? ⟨x1.heap.size + 1, 0, none⟩ = some (.slice a6 xs.length cap6) := (hcx _).trans cE
    have E1 := hide e1
    have E2 := hide e2
    have E3 := hide e3
    have E4 := hide e4
    clear e1 e2 e3 e4 cR cE
    by_cases hlt : k < xs.length
    · obtain ⟨ha5, hc5⟩ := HR5.out k hlt
      obtain ⟨ha6, hc6⟩ := HR6.out k hlt
      have c3 := (hcx _).trans hc5
      have c4 := (hcx _).trans hc6
      have ix5 : ∀ wx : World, (Instr.indexAt 29 (.slice a5 xs.length cap5) (.int .i64 k)).run Tryz.prog wx = .ok (.pointer (some ⟨g5, k, none⟩)) wx := fun wx => by
        rw [ha5]
        exact index_row Tryz.underlying29 (fun w => by kernel_rfl) g5 k xs.length cap5 hlt wx
      have ix6 : ∀ wx : World, (Instr.indexAt 29 (.slice a6 xs.length cap6) (.int .i64 k)).run Tryz.prog wx = .ok (.pointer (some ⟨g6, k, none⟩)) wx := fun wx => by
        rw [ha6]
        exact index_row Tryz.underlying29 (fun w => by kernel_rfl) g6 k xs.length cap6 hlt wx
      by_cases hk0 : 0 < k
      · have hc7 := (HR5.out (k - 1) (by omega)).2
        have c5 := (hcx _).trans hc7
        have ek : ((k - 1 : Nat) : Int) = (k : Int) - 1 := by omega
        have ix7 : ∀ wx : World, (Instr.indexAt 29 (.slice a5 xs.length cap5) (.int .i64 ((k : Int) - 1))).run Tryz.prog wx = .ok (.pointer (some ⟨g5, k - 1, none⟩)) wx := fun wx => by
          rw [ha5, ← ek]
          exact index_row Tryz.underlying29 (fun w => by kernel_rfl) g5 (k - 1) xs.length cap5 (by omega) wx
        have hinc : xs.getD (k - 1) 0 < xs.getD k 0 := by
          have h1 : k - 1 < xs.length := by omega
          have := List.pairwise_iff_getElem.1 HInc.out (k - 1) k h1 hlt (by omega)
          simpa [List.getD, h1, hlt] using this
        have hki : (0 : Int) < (k : Int) := by omega
        have hwr : IntKind.i64.wrap ((k : Int) - 1) = (k : Int) - 1 := by rw [IntKind.wrap_i64]; omega
        generalize xs.getD k 0 = X at c3 c4 hinc
        generalize xs.getD (k - 1) 0 = Y at c5 hinc
        generalize k - 1 = k1 at c5 ix7
        clear hcx hc5 hc6 hc7 ha5 ha6 ek
        go_wp2
        go_quiet (fail)
        go_wp2
        go_quiet (fail)
        go_wp2
        go_roundw
        case rel => exact ⟨k + 1, by omega, by go_num, E1.out, E2.out, E3.out, E4.out⟩
        case measure => simp [intOf]; omega
      · have hki : decide ((0 : Int) < (k : Int)) = false := decide_eq_false (by omega)
        generalize xs.getD k 0 = X at c3 c4
        clear hcx hc5 hc6 ha5 ha6
        go_wp2
        go_quiet (fail)
        go_wp2
        go_quiet (fail)
        go_wp2
        go_roundw
        case rel => exact ⟨k + 1, by omega, by go_num, E1.out, E2.out, E3.out, E4.out⟩
        case measure => simp [intOf]; omega
    · clear hcx
      go_wp2
      go_ret
      exact ⟨rfl, hBw.trans ⟨E1.out, E2.out, E3.out, by rw [E4.out]; exact Nat.le_refl _, fun k _ => by rw [E4.out]⟩⟩

end Go.Proofs.Qxb6003857aGreat
