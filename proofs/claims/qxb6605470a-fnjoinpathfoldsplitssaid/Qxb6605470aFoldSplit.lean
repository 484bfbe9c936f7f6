/-
  THE SECOND LAW ON joinPath: zzSplitSlash.
-/
import Derived.Test.Qxb6605470aFoldLaw
namespace Go.Proofs.Qxb6605470a
open Go.RowKit

theorem Try.info9 : (Try.prog.info? 9).map (fun i => (i.zero, i.size, i.bytes)) = some (some (.string ⟨#[]⟩), 1, 16) := by kernel_rfl

theorem cells_new (w : World) (vs : List Value) (t : TypeId) : ∀ j u, vs[j]? = some u → (w.alloc (.cells vs.toArray t)).cell? ((⟨w.heap.size, 0, none⟩ : Addr).add j) = some u := by
  intro j u h
  have e2 : (⟨w.heap.size, 0, none⟩ : Addr).add j = ⟨w.heap.size, j, none⟩ := by
    simp only [Addr.add]
    split
    · subst_vars; rfl
    · simp
  rw [e2, World.cell?_alloc_new]
  simpa using h

/-- The first q names, as cells. -/
def strL (S : Nat → ByteArray) (q : Nat) : List Value := (List.range q).map (fun j => Value.string (S j))

theorem strL_succ (S : Nat → ByteArray) (q : Nat) : strL S q ++ [.string (S q)] = strL S (q + 1) := by
  simp [strL, List.range_succ]

theorem cut_mid {S : Nat → ByteArray} {n q i : Nat} (h : q < n) (hi : i = pos S q + (S q).size) (wx : World) :
    (Instr.slice 9 (.string (JR S 0 n)) (some (.int .i64 (pos S q : Nat))) (some (.int .i64 i)) none).run Try.prog wx = .ok (.string (S q)) wx := by
  have hz := JR_size_at (S := S) h
  rw [run_slice_string wx 9 _ .i64 .i64 _ _ Try.underlying9 (by omega) (by omega) (by omega)]
  have := JR_cut S q n h
  rw [← hi] at this
  simpa using this

theorem cut_end {S : Nat → ByteArray} {n q : Nat} (h : q + 1 = n) (wx : World) :
    (Instr.slice 9 (.string (JR S 0 n)) (some (.int .i64 (pos S q : Nat))) none none).run Try.prog wx = .ok (.string (S q)) wx := by
  have hz := JR_size_at (S := S) (n := n) (q := q) (by omega)
  have hz2 := hz.2.2 h
  rw [run_slice_string_from_if wx 9 _ .i64 _ Try.underlying9, if_pos (by omega)]
  have := JR_cut S q n (by omega)
  rw [hz2] at this
  simpa using this

set_option maxRecDepth 100000 in
theorem split_any (S : Nat → ByteArray) (n : Nat) (hn : 0 < n) (hn2 : n ≤ 256) (hsz : pos S n ≤ 65536) (hno : ∀ j, j < n → NoSl (S j) 0 (S j).size) (w : World) :
    Calls Try.prog 10 #[.string (JR S 0 n)] w fun e w' => e = .returned (.slice (some ⟨w.heap.size, 0, none⟩) n n) ∧ Below w.heap.size w w' ∧ ∀ i, i < n → w'.cell? ⟨w.heap.size, i, none⟩ = some (.string (S i)) := by
  obtain ⟨i0, hi, hz0, hz1, hz2⟩ := info_parts Try.info9
  have hlen : (JR S 0 n).size ≤ 65536 := by
    obtain ⟨k, rfl⟩ : ∃ k, n = k + 1 := ⟨n - 1, by omega⟩
    have := JR_size S k
    omega
  have HNO : Hid (∀ j, j < n → NoSl (S j) 0 (S j).size) := hno
  clear hno
  go_enter Try.func10, Try.ntmps10
  go_wp2
  go_loop [3, 4] (fun c i => ∃ k q : Nat, k ≤ (JR S 0 n).size ∧ i = .int .i64 k ∧ c = .int .i64 ((q : Int) + 1) ∧ InAt S n q k) (fun _ i => (JR S 0 n).size - (intOf i).toNat)
  case atStart => exact ⟨0, 0, Nat.zero_le _, rfl, rfl, InAt.start S n hn⟩
  case round =>
    obtain ⟨k, q, hk, rfl, rfl, hA⟩ := hrel
    have hql := hA.lt
    by_cases hlt : k < (JR S 0 n).size
    · rcases hA.step HNO.out hlt with ⟨b, hb, hix, hA'⟩ | ⟨hix, hk', hq', hA', hp'⟩
      · go_wp2
        go_round
        case rel => exact ⟨k + 1, q, by omega, by go_num, rfl, hA'⟩
        case measure => simp [intOf]; omega
      · clear hk' hp'
        go_wp2
        go_round
        case rel => exact ⟨k + 1, q + 1, by omega, by go_num, by go_num, hA'⟩
        case measure => simp [intOf]; omega
    · obtain rfl : k = (JR S 0 n).size := by omega
      have hq1 := hA.last
      clear hA
      have hq2 : (q : Int) + 1 = n := by omega
      rw [hq2]
      clear hq2 hq1 hql hk hlt
      go_wp2_with (at_make; refine wpList_make_own _ rfl _ _ 26 rfl w.heap.size 9 i0 (.string ⟨#[]⟩) 1 Try.underlying26 hi hz0 hz1 _ _ _ n rfl rfl (by omega) (by rw [hz2]; omega) (by unfold maxLen; omega) (Nat.le_refl _) ?_; intro w1 hown1 hg1)
      have hb1 : Below w.heap.size w w1 := (Below.refl _ _).grown hg1 (Nat.le_refl _) (fun k e => by cases e)
      go_loopw [5, 6, 7] (fun v st i wr => ∃ k q : Nat, k ≤ (JR S 0 n).size ∧ i = .int .i64 k ∧ st = .int .i64 (pos S q : Nat) ∧ v = .slice (some ⟨w.heap.size, 0, none⟩) q n ∧ wr.ownsRow w.heap.size 9 1 (.slice (some ⟨w.heap.size, 0, none⟩) q n) q (strL S q) ∧ Below w.heap.size w wr ∧ InAt S n q k)
        (fun _ _ i _ => (JR S 0 n).size - (intOf i).toNat)
      case atStart => exact ⟨0, 0, Nat.zero_le _, rfl, rfl, rfl, hown1, hb1, InAt.start S n hn⟩
      case round =>
        clear hown1 hb1 hg1
        obtain ⟨k, q, hk, rfl, rfl, rfl, hown, hb, hA⟩ := hrel
        have hql := hA.lt
        by_cases hlt : k < (JR S 0 n).size
        · rcases hA.step HNO.out hlt with ⟨b, hb', hix, hA'⟩ | ⟨hix, hk', hq', hA', hp'⟩
          · go_wp2
            go_roundw
            case rel => exact ⟨k + 1, q, by omega, by go_num, rfl, rfl, hown, hb, hA'⟩
            case measure => simp [intOf]; omega
          · have hcut := cut_mid hql hk'
            have HO : Hid (wr.ownsRow w.heap.size 9 1 (.slice (some ⟨w.heap.size, 0, none⟩) q n) q (strL S q)) := hown
            have HP : Hid (pos S (q + 1) = k + 1) := hp'
            clear hk' hown hp'
            go_wp2_with (at_builtin; refine wpList_append_fits _ rfl (.tmp 32) (.tmp 37) 26 rfl w.heap.size 9 i0 1 Try.underlying26 hi hz1 w.heap.size q n _ rfl (HO.out.alloc _) ⟨wr.heap.size, 0, none⟩ 1 1 [.string (S q)] rfl rfl (cells_new _ _ _) (by intro u hu; simp at hu; subst hu; rfl) (by omega) ?_; intro w4 hown4 hg4)
            go_roundw
            case rel =>
              refine ⟨k + 1, q + 1, by omega, by go_num, ?_, rfl, ?_, ?_, hA'⟩
              · rw [HP.out]; go_num
              · rw [strL_succ] at hown4; exact hown4
              · exact (hb.alloc hb.size _).grown hg4 (hb.alloc hb.size _).size (fun k e => by cases e; exact Nat.le_refl _)
            case measure => simp [intOf]; omega
        · obtain rfl : k = (JR S 0 n).size := by omega
          have hq1 := hA.last
          have hcut := cut_end (S := S) hq1
          have HO : Hid (wr.ownsRow w.heap.size 9 1 (.slice (some ⟨w.heap.size, 0, none⟩) q n) q (strL S q)) := hown
          have HQ : Hid (q + 1 = n) := hq1
          clear hown hA hq1
          go_wp2_with (at_builtin; refine wpList_append_fits _ rfl (.tmp 41) (.tmp 45) 26 rfl w.heap.size 9 i0 1 Try.underlying26 hi hz1 w.heap.size q n _ rfl (HO.out.alloc _) ⟨wr.heap.size, 0, none⟩ 1 1 [.string (S q)] rfl rfl (cells_new _ _ _) (by intro u hu; simp at hu; subst hu; rfl) (by omega) ?_; intro w4 hown4 hg4)
          go_ret
          have hQ := HQ.out
          clear HQ HO
          subst hQ
          refine ⟨rfl, (hb.alloc hb.size _).grown hg4 (hb.alloc hb.size _).size (fun k e => by cases e; exact Nat.le_refl _), fun i hi => ?_⟩
          rw [strL_succ] at hown4
          rw [hown4.cellAt i (by omega)]
          simp [strL, hi]

end Go.Proofs.Qxb6605470a
