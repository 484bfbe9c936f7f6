/-
  THE LAW ON Import: the walk.
-/
import Derived.Test.Qxb6003857aImportInv
import Derived.Deep.DeepCutAuto
import Derived.Deep.RegionWith
import Derived.Deep.RegionLaw
namespace Go.Proofs.Qxb6003857a
open Go.RowKit Go.Maps Go.WideMaps

theorem imp_big (a0 : Option Addr) (len0 cap0 : Nat) (w : World) (h : 64 < len0) (hm : len0 ≤ maxLen) :
    Calls Try.prog 4 #[.slice a0 len0 cap0] w fun e w' => e = .returned (.bool true) ∧ Below w.heap.size w w' := by
  unfold maxLen at hm
  by_cases h2 : len0 ≤ 1048576
  · go_enter Try.func4, Try.ntmps4
    go_wp2
    go_ret
    exact ⟨rfl, Below.refl _ _⟩
  · go_enter Try.func4, Try.ntmps4
    go_wp2
    go_ret
    exact ⟨rfl, Below.refl _ _⟩

theorem size5' (w : World) : (sizeOf 5).run Try.prog w = .ok 1 w := by kernel_rfl

theorem index22' (b k len : Nat) (hk : k < len) (wx : World) : (Instr.indexAt 22 (.slice (some ⟨b, 0, none⟩) len len) (.int .i64 k)).run Try.prog wx = .ok (.pointer (some ⟨b, k, none⟩)) wx := by
  have e : Try.prog.elem 22 = 5 := by simp [Program.elem, Try.underlying22]
  rw [run_indexAt_slice wx 22 _ _ _ _ _ (by rw [e]; exact Try.underlying22), if_pos (by omega), e, size5']
  simp [Result.andThen, Addr.add]
  omega

set_option maxHeartbeats 8000000 in
set_option maxRecDepth 100000 in
theorem imp_small (a0 : Option Addr) (len0 cap0 : Nat) (z0 : List Int) (w : World) (h : len0 ≤ 64) (w0 : IsRow .u8 w a0 len0 cap0 z0) :
    Calls Try.prog 4 #[.slice a0 len0 cap0] w fun e w' => e = .returned (.bool true) ∧ Below w.heap.size w w' := by
  have W0 : Hid (IsRow .u8 w a0 len0 cap0 z0) := w0
  clear w0
  go_enter Try.func4, Try.ntmps4
  go_wp2_with (first
    | (go_at_call 7; refine (clone_any _ _ _ _ _ W0.out h).mono ?_; rintro e w1 ⟨a1, b1, rfl, hb1, hc1⟩)
    | (go_at_call 8; refine (newScope_any _ _).mono ?_; rintro e w' ⟨rfl, rfl⟩)
    | (go_at_call 13; go_in))
  go_loopw [5] (fun i wr => ∃ j : Nat, j ≤ 4 ∧ i = .int .i64 j ∧ Fill w1 wr j) (fun i _ => 4 - (intOf i).toNat)
  case atStart => exact ⟨0, by omega, rfl, Fill.start w1⟩
  case round =>
    obtain ⟨j, hj, rfl, hF⟩ := hrel
    clear W0
    by_cases hj4 : j < 4
    · have c1 : ∀ cs, (wr.alloc (.cells cs 34)).cell? ⟨w1.heap.size + 1 + 1, j, none⟩ = some (.pointer none) := fun cs => by
        have := (hF.pa.alloc (.cells cs 34)).cell hj4
        simpa using this
      have f1 : ∀ cs, (wr.alloc (.cells cs 34)).frozen? ⟨w1.heap.size + 1 + 1, j, none⟩ = false := fun cs => (hF.pa.alloc (.cells cs 34)).frozen j
      go_wp2_with fail
      obtain ⟨t, ht, ht3⟩ : ∃ t : Nat, (j : Int) % 3 = t ∧ t < 3 := ⟨j % 3, by omega, by omega⟩
      rw [ht]
      clear ht
      refine (importName_any t _ ht3).mono ?_
      rintro e w' ⟨rfl, rfl⟩
      go_wp2
      go_roundw
      case rel => exact ⟨j + 1, by omega, by go_num, hF.step _⟩
      case measure => simp [intOf]; omega
    · have hF4 : Fill w1 wr 4 := by
        have e4 : j = 4 := by omega
        rw [e4] at hF
        exact hF
      clear hF
      go_wp2
      have hM := hF4.main _ _ rfl rfl
      have hsz : wr.heap.size = w1.heap.size + 7 := by have := hF4.size; omega
      rw [hsz]
      generalize (wr.alloc (.cells #[.int .i64 0, .int .i64 0, .int .i64 0, .int .i64 0, .int .i64 0, .int .i64 0, .int .i64 0, .int .i64 0, .int .i64 0, .int .i64 0, .int .i64 0, .int .i64 0] 42)).alloc (.cells #[.int .i64 0, .int .i64 0, .int .i64 0] 43) = W3 at hM ⊢
      clear hF4 hsz hj hj4
      go_loopw [8] (fun i wr => ∃ k : Nat, ∃ Ls : Nat → List Nat, k ≤ len0 ∧ i = .int .i64 k ∧ (∀ t, t < 3 → Wf (Ls t)) ∧ Main w1 wr (4 * k) Ls Ls) (fun i _ => len0 - (intOf i).toNat)
      case atStart => exact ⟨0, _, Nat.zero_le _, rfl, fun _ _ => wf_nil, hM⟩
      case round =>
        clear hM
        obtain ⟨k, Ls, hk, rfl, hW, hM⟩ := hrel
        by_cases hlt : k < len0
        · obtain ⟨ha1, hb, o, ho, hco⟩ := hc1 k hlt
          have hcr : wr.cell? ⟨b1, k, none⟩ = some (.int .u8 o) := (hM.below.cell (p := ⟨b1, k, none⟩) hb).trans hco
          have hix : ∀ wx : World, (Instr.indexAt 22 (.slice a1 len0 len0) (.int .i64 k)).run Try.prog wx = .ok (.pointer (some ⟨b1, k, none⟩)) wx := by
            intro wx
            rw [ha1]
            exact index22' b1 k len0 hlt wx
          clear ha1 hc1 hco
          go_wp2_with fail
          obtain ⟨t, ht, ht3⟩ : ∃ t : Nat, (o : Int) % 3 = t ∧ t < 3 := ⟨o % 3, by omega, by omega⟩
          rw [ht]
          clear ht
          have ht3i : (t : Int) < 3 := by omega
          refine (importName_any t _ ht3).mono ?_
          rintro e w' ⟨rfl, rfl⟩
          go_upto_if 58 with fail
          go_cut [12, 13] (fun c g w => ∃ d : Bool, ∃ Ls' : Nat → List Nat, c = .bool d ∧ g = .bool d ∧ (∀ t, t < 3 → Wf (Ls' t)) ∧ Main w1 w (4 * k + 4) Ls' Ls')
          case first =>
            go_wp2_with fail
            · obtain ⟨j, hj, hj4⟩ : ∃ j : Nat, (o : Int) / 8 % 4 = j ∧ j < 4 := ⟨o / 8 % 4, by omega, by omega⟩
              rw [hj]
              have hj4i : (j : Int) < 4 := by omega
              clear hj hcr
              have hM2 := hM.drew
              clear hM
              go_region_with (go_at_call 15; refine (hM2.model hW t j ht3 hj4).mono ?_; rintro e w3 ⟨rfl, hM3, _⟩)
              all_goals
                have c3 : w3.cell? ⟨w1.heap.size + 1 + 1, j, none⟩ = some (.pointer (some ⟨w1.heap.size + 3 + j, 0, none⟩)) := hM3.pa.cell hj4
                have hone := hM3.one hW (by omega) t j ht3 hj4
                have hW' := wf_upds hW t ht3 [j] (by simpa using hj4)
                generalize decide (j ∈ Ls t) = d at hone ⊢
                generalize upds Ls t [j] = Ls' at hone hM3 hW'
                have HO : Hid _ := hone
                clear hM2 hM3 hone
                go_wp2_with (go_at_call 16; refine Calls.mono HO.out ?_; rintro e w4 ⟨rfl, hM4⟩)
                go_meet
                case rel => exact ⟨!d, Ls', rfl, rfl, hW', hM4.mono (by omega)⟩
            · rename ((bits BinOp.and IntKind.u8 ((o : Int) / 4) 1 == 0) = false) => hbit
              rw [hbit]
              clear hbit
              have hMd := hM
              have hB := Built.start w' (w1.heap.size + 7) (w1.heap.size + 7 + 1) (w1.heap.size + 3) ⟨#[97, 109, 98]⟩
              have hSe : SeenIs (w'.alloc (.cells #[.string ⟨#[97, 109, 98]⟩, .slice none 0 0] 51)) (w1.heap.size + 7) (w1.heap.size + 7 + 1) (upds Ls t []) := by
                rw [upds_nil]
                exact (hM.keep ((Below.refl _ _).alloc (Nat.le_refl _) _)).seen
              generalize w'.alloc (.cells #[.string ⟨#[97, 109, 98]⟩, .slice none 0 0] 51) = w2 at hB hSe ⊢
              clear hcr
              obtain ⟨wS, hwS⟩ : ∃ wS : World, wS = w' := ⟨_, rfl⟩
              rw [← hwS] at hB hM ⊢
              clear hMd hwS
              go_loopw [12, 17] (fun c i wr => ∃ M : List Nat, ∃ r : Nat, r + M.length ≤ 4 ∧ i = .int .i64 ((r : Int) - 1) ∧ c = .bool (chg (Ls t) M) ∧ (∀ x ∈ M, x < 4) ∧ Built wS wr (w1.heap.size + 7) (w1.heap.size + 7 + 1) (w1.heap.size + 3) M ∧ SeenIs wr (w1.heap.size + 7) (w1.heap.size + 7 + 1) (upds Ls t M)) (fun _ i _ => (intOf i + 1).toNat)
              case atStart => exact ⟨[], 4, by simp, rfl, rfl, by simp, hB, hSe⟩
              case round =>
                clear hB hSe
                obtain ⟨M, r, hr, rfl, rfl, hM4, hB, hSe⟩ := hrel
                by_cases hr0 : 0 < r
                · obtain ⟨j, rfl⟩ : ∃ j : Nat, r = j + 1 := ⟨r - 1, by omega⟩
                  have ej : ((j + 1 : Nat) : Int) - 1 = (j : Int) := by omega
                  rw [ej]
                  have hj4 : j < 4 := by omega
                  have hj4i : (j : Int) < 4 := by omega
                  go_wp2_with fail
                  · obtain ⟨s, v, hq, hown⟩ := hB.amb
                    have hsz := hB.size
                    have hvb : ∀ b, v.ownBlock = some b → wS.heap.size + 1 ≤ b := by
                      intro b hb
                      rcases hown.2 with ⟨e1, _⟩ | ⟨g, cap, cur, e1, h1, _⟩
                      · rw [e1] at hb; cases hb
                      · rw [e1] at hb; cases hb; exact h1
                    obtain ⟨d1, f1⟩ := built_cell hq
                    have d1' : ∀ O, ((wr.alloc O).drew).cell? ⟨wS.heap.size, 1, none⟩ = some v := fun O => alloc_at O d1
                    have d2 : wr.drew.cell? ⟨w1.heap.size + 1 + 1, j, none⟩ = some (.pointer (some ⟨w1.heap.size + 3 + j, 0, none⟩)) := hB.cell (hM.pa.cell hj4) (by simp only; omega) (by simp only; omega)
                    have hnb : some wS.heap.size ≠ v.ownBlock := fun e => by have := hvb _ e.symm; omega
                    obtain ⟨i0, hi, hz0, hz1, hz2⟩ := info_parts info37
                    have hMl : M.length ≤ 4 := by omega
                    have HQ : Hid (wr.heap[wS.heap.size]? = some (.cells #[.string s, v] 51 (0, 0))) := hq
                    clear hq
                    go_region_law (refine step_append_lies _ rfl (.tmp 94) (.tmp 99) 49 rfl (wS.heap.size + 1) 37 i0 .nilIface 1 16 Try.underlying49 hi hz0 hz1 hz2 rfl (by decide) v M.length (M.map (pv (w1.heap.size + 3))) (by simp [Act.eval]) (by exact hown.alloc _) ⟨wr.heap.size, 0, none⟩ 1 1 [pv (w1.heap.size + 3) j] (by simp [Act.eval]) (by simp) (by exact cell_one_new _ _ _) (by simp [pv_def, Value.oneCell']) (by omega) (by unfold maxLen; omega) (by omega) (by simp; omega) _ rfl ?_; intro g2 cap2 w3 hown3 hgrow hat hlt3; have hk := built_after HQ.out hnb hgrow; have k1 := hk.1; have k2 := hk.2; clear hk)
                    all_goals
                      have hB3 := hB.append HQ.out hvb hown3 hgrow
                      have hSz : w1.heap.size + 9 ≤ wS.heap.size := hM.size
                      have hSe3 : SeenIs (w3.setCell ⟨wS.heap.size, 1, none⟩ (.slice (some ⟨g2, 0, none⟩) (M.length + 1) cap2)) (w1.heap.size + 7) (w1.heap.size + 7 + 1) (upds Ls t M) := by
                        have hb : ∀ k, k < wS.heap.size → (w3.setCell ⟨wS.heap.size, 1, none⟩ (.slice (some ⟨g2, 0, none⟩) (M.length + 1) cap2)).heap[k]? = wr.heap[k]? := fun k hk => by
                          rw [Below.heap_setCell _ _ _ _ (by simp only; omega)]
                          exact (hgrow.block k (by simp; omega) (fun e => by have := hvb _ e.symm; omega)).trans (Below.heap_alloc _ _ _ (by omega))
                        exact hSe.block (hb _ (by omega)) (hb _ (by omega))
                      generalize w3.setCell ⟨wS.heap.size, 1, none⟩ (.slice (some ⟨g2, 0, none⟩) (M.length + 1) cap2) = w4 at hB3 hSe3 ⊢
                      clear k1 k2 hown3 hgrow hat hlt3 d1 d1' f1 d2 hown hvb hnb HQ hB hSe hi hz0 hz1 hz2
                      have hW' := wf_upds hW t ht3 M hM4
                      have hmod := modelAdd_any t j w4.drew (by omega : w1.heap.size + 7 ≠ w1.heap.size + 7 + 1) ht3 hj4 hSe3 hW'
                      rw [Nat.mul_comm 4 t, upds_at, ← upds_snoc] at hmod
                      have hchg := chg_snoc (Ls t) M j
                      generalize decide (j ∈ adds (Ls t) M) = d at hmod hchg
                      have HO : Hid _ := hmod
                      have HG : Hid _ := hchg
                      clear hmod hchg hSe3
                      go_wp2_with fail
                      go_region_with (go_at_call 15; refine Calls.mono HO.out ?_; rintro e w5 ⟨rfl, hS5, hb5⟩)
                      have hB5 := hB3.drew.but hb5 (by omega) (by omega)
                      have hM5 : ∀ x ∈ M ++ [j], x < 4 := fun x hx => by
                        rcases List.mem_append.1 hx with hx | hx
                        · exact hM4 x hx
                        · rw [List.mem_singleton] at hx; omega
                      have HM5 : Hid (∀ x ∈ M ++ [j], x < 4) := hM5
                      clear hB3 hb5 HO hM5 hM4
                      cases d
                      · go_wp2
                        go_roundw
                        case rel => exact ⟨M ++ [j], j, by simp; omega, rfl, by rw [HG.out]; rfl, HM5.out, hB5, hS5⟩
                        case measure => simp [intOf]
                      · go_wp2
                        go_roundw
                        case rel => exact ⟨M ++ [j], j, by simp; omega, rfl, by rw [HG.out]; rfl, HM5.out, hB5, hS5⟩
                        case measure => simp [intOf]
                  · go_roundw
                    case rel => exact ⟨M, j, by omega, rfl, rfl, hM4, hB, hSe⟩
                    case measure => simp [intOf]
                · obtain rfl : r = 0 := by omega
                  have hMe := hB.main hM hSe
                  have hamb := hMe.amb hW (by omega) t ht3 hM4 (by omega) hB.isAmb
                  have hW' := wf_upds hW t ht3 M hM4
                  have HO : Hid _ := hamb
                  have hMl : M.length ≤ 4 := by omega
                  clear hMe hamb hSe hB hM4 hr hr0
                  go_wp2_with (go_at_call 16; refine Calls.mono HO.out ?_; rintro e w4 ⟨rfl, hM5⟩)
                  go_meet
                  case rel => exact ⟨chg (Ls t) M, upds Ls t M, rfl, rfl, hW', hM5.mono (by omega)⟩
          case rest =>
            obtain ⟨d, Ls', rfl, rfl, hW', hM4⟩ := hcut
            clear hM hW hcr
            go_wp2
            have hM5 := hM4.drew
            obtain ⟨x, hlk, hct, hmt⟩ := hM5.test hW' t ht3
            have HL : Hid _ := hlk
            have HMt : Hid _ := hmt
            clear hM4 hlk hmt
            go_region_with (first
              | (go_at_call 12; refine Calls.mono HL.out ?_; rintro e w5 ⟨rfl, rfl⟩)
              | (go_at_call 17; refine Calls.mono HMt.out ?_; rintro e w5 ⟨rfl, hb5⟩))
            all_goals
              go_wp2
              go_roundw
              case rel => exact ⟨k + 1, Ls', by omega, by go_num, hW', hM5.keep hb5⟩
              case measure => simp [intOf]; omega
        · clear hc1
          go_wp2
          go_loopw [18] (fun i wr => ∃ t : Nat, t ≤ 3 ∧ i = .int .i64 t ∧ Main w1 wr (4 * k) Ls Ls) (fun i _ => 3 - (intOf i).toNat)
          case atStart => exact ⟨0, by omega, rfl, hM⟩
          case round =>
            clear hM
            obtain ⟨t, ht, rfl, hM⟩ := hrel
            by_cases ht3 : t < 3
            · have ht3i : (t : Int) < 3 := by omega
              have hM5 := hM.drew
              obtain ⟨x, hlk, hct, hmt⟩ := hM5.test hW t ht3
              have HL : Hid _ := hlk
              have HMt : Hid _ := hmt
              clear hM hlk hmt
              go_wp2_with (go_at_call 14; refine (importName_any t _ ht3).mono ?_; rintro e w' ⟨rfl, rfl⟩)
              go_region_with (first
                | (go_at_call 12; refine Calls.mono HL.out ?_; rintro e w5 ⟨rfl, rfl⟩)
                | (go_at_call 17; refine Calls.mono HMt.out ?_; rintro e w5 ⟨rfl, hb5⟩))
              all_goals
                go_wp2
                go_roundw
                case rel => exact ⟨t + 1, by omega, by go_num, hM5.keep hb5⟩
                case measure => simp [intOf]; omega
            · have hsz := hb1.size
              go_wp2
              go_ret
              exact ⟨rfl, hb1.trans (hM.below.mono hsz)⟩

end Go.Proofs.Qxb6003857a
