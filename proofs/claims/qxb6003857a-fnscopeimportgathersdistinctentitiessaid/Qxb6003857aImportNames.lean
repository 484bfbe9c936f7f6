/-
  (*Scope).Import, SAID OF THE LISTS THAT THE NAMES STAND FOR: one entity; an Ambiguous.
-/
import Derived.Test.Qxb6003857aImportOne
import Derived.Test.Qxb6003857aImportPlain
namespace Go.Proofs.Qxb6003857a
open Go.RowKit Go.Maps Go.WideMaps

/-- What the map holds for the list L: nothing; the one; an Ambiguous over all. -/
def Holds (w : World) (p0 : Nat) (L : List Nat) (x : Option Value) : Prop :=
  (L = [] ∧ x = none) ∨ (∃ j, L = [j] ∧ x = some (pv p0 j)) ∨ (2 ≤ L.length ∧ ∃ q, x = some (.iface 48 (.pointer (some ⟨q, 0, none⟩))) ∧ Amb w q p0 L)

/-- The blocks in which an Ambiguous and its entities lie are as they were. -/
def Kept (w w' : World) : Prop := ∀ (k : Nat) (cs : Array Value) (t : TypeId), w.heap[k]? = some (Obj.cells cs t (0, 0)) → (t = 51 ∨ t = 37) → w'.heap[k]? = w.heap[k]?

theorem Amb.kept {w w' : World} {q p0 : Nat} {L : List Nat} (h : Amb w q p0 L) (hk : Kept w w') : Amb w' q p0 L := by
  obtain ⟨s, v, hq, hlen, h1 | ⟨g, cap, cur, hv, hb, hg, r⟩⟩ := h
  · exact ⟨s, v, (hk q _ 51 hq (Or.inl rfl)).trans hq, hlen, Or.inl h1⟩
  · exact ⟨s, v, (hk q _ 51 hq (Or.inl rfl)).trans hq, hlen, Or.inr ⟨g, cap, cur, hv, hb, (hk g _ 37 hg (Or.inr rfl)).trans hg, r⟩⟩

theorem Holds.kept {w w' : World} {p0 : Nat} {L : List Nat} {x : Option Value} (h : Holds w p0 L x) (hk : Kept w w') : Holds w' p0 L x := by
  rcases h with h | h | ⟨h1, q, h2, h3⟩
  · exact Or.inl h
  · exact Or.inr (Or.inl h)
  · exact Or.inr (Or.inr ⟨h1, q, h2, h3.kept hk⟩)

theorem kept_grown {w w' : World} {b n : Nat} {m : List UInt8 → Option Value} (hm : MapIs w b n m) (hg : w.grownBy w' (some b)) : Kept w w' := fun k cs t hk _ =>
  hg.block k (Array.getElem?_eq_some_iff.1 hk).1 (by simpa using hm.ne_block hk)

theorem pool_grown {w w' : World} {b n p0 : Nat} {m : List UInt8 → Option Value} (hp : PoolIs w p0) (hm : MapIs w b n m) (hg : w.grownBy w' (some b)) : PoolIs w' p0 := fun j hj => by
  obtain ⟨cs, hc⟩ := hp j hj
  exact ⟨cs, (hg.block _ (Array.getElem?_eq_some_iff.1 hc).1 (by simpa using hm.ne_block hc)).trans hc⟩

/-- The map in block b, name by name. -/
def Names (w : World) (b n p0 : Nat) (Ls : Nat → List Nat) : Prop := ∃ m, MapIs w b n m ∧ ∀ k, k < 3 → Holds w p0 (Ls k) (m (nmI k).data.toList)

theorem Names.lt {w : World} {b n p0 : Nat} {Ls : Nat → List Nat} (h : Names w b n p0 Ls) : b < w.heap.size := let ⟨_, h1, _⟩ := h; h1.lt

theorem Names.mono {w : World} {b n n' p0 : Nat} {Ls : Nat → List Nat} (h : Names w b n p0 Ls) (hn : n ≤ n') : Names w b n' p0 Ls := let ⟨m, h1, h2⟩ := h; ⟨m, h1.mono hn, h2⟩

theorem Names.kept {w w' : World} {b n p0 : Nat} {Ls : Nat → List Nat} (h : Names w b n p0 Ls) (hb : w'.heap[b]? = w.heap[b]?) (hk : Kept w w') : Names w' b n p0 Ls :=
  let ⟨m, h1, h2⟩ := h; ⟨m, h1.block hb, fun k h3 => (h2 k h3).kept hk⟩

def upds (Ls : Nat → List Nat) (k : Nat) (M : List Nat) : Nat → List Nat := fun i => if i = k then adds (Ls k) M else Ls i

theorem upds_nil (Ls : Nat → List Nat) (k : Nat) : upds Ls k [] = Ls := by
  funext i
  unfold upds
  split
  · rename_i h; rw [h]; rfl
  · rfl

theorem upds_snoc (Ls : Nat → List Nat) (k : Nat) (M : List Nat) (j : Nat) : upds Ls k (M ++ [j]) = upds (upds Ls k M) k [j] := by
  funext i
  unfold upds
  split
  · rw [if_pos rfl, adds_snoc]; rfl
  · rfl

theorem upds_at (Ls : Nat → List Nat) (k : Nat) (M : List Nat) : upds Ls k M k = adds (Ls k) M := by simp [upds]

/-- One entity that the name has already. -/
theorem import_old {b sb n p0 : Nat} {Ls : Nat → List Nat} (k j : Nat) (w : World) (hk : k < 3) (hj : j < 4) (c1 : w.cell? ⟨sb, 1, none⟩ = some (.map (some b))) (hp : PoolIs w p0) (hN : Names w b n p0 Ls) (hW : Wf (Ls k)) (hin : j ∈ Ls k) :
    Calls Try.prog 16 #[.pointer (some ⟨sb, 0, none⟩), .string (nmI k), pv p0 j] w fun e w' => e = .returned (.bool false) ∧ w' = w := by
  obtain ⟨m, hm, hH⟩ := hN
  rcases hH k hk with ⟨h1, _⟩ | ⟨i, h1, h2⟩ | ⟨_, q, h2, h3⟩
  · rw [h1] at hin; cases hin
  · rw [h1, List.mem_singleton] at hin
    subst hin
    exact imp_same (nmI k) j w (nmI_size k) c1 hm h2
  · exact imp_in (nmI k) j w (nmI_size k) c1 hm hp hj h2 h3 hW.2 hW.length hin

/-- One that it has not. -/
theorem import_new {b sb n p0 : Nat} {Ls : Nat → List Nat} (k j : Nat) (w : World) (hk : k < 3) (hj : j < 4) (hn : n < maxLen) (c1 : w.cell? ⟨sb, 1, none⟩ = some (.map (some b))) (hp : PoolIs w p0) (hN : Names w b n p0 Ls) (hW : Wf (Ls k)) (hin : j ∉ Ls k) :
    Calls Try.prog 16 #[.pointer (some ⟨sb, 0, none⟩), .string (nmI k), pv p0 j] w fun e w' => e = .returned (.bool true) ∧ Names w' b (n + 1) p0 (upds Ls k [j]) ∧ w.grownBy w' (some b) := by
  obtain ⟨m, hm, hH⟩ := hN
  have fin : ∀ (w' : World) (v : Value), MapIs w' b (n + 1) (put m (nmI k).data.toList v) → w.grownBy w' (some b) → Holds w' p0 (Ls k ++ [j]) (some v) → Names w' b (n + 1) p0 (upds Ls k [j]) := by
    intro w' v h1 h2 h3
    refine ⟨_, h1, fun i hi => ?_⟩
    unfold put upds
    by_cases e : i = k
    · subst e
      rw [if_pos rfl, if_pos rfl]
      have : adds (Ls i) [j] = Ls i ++ [j] := by simp [adds, addC, add, hin]
      rw [this]
      exact h3
    · rw [if_neg (fun e2 => e (nmI_inj i k hi hk e2)), if_neg e]
      exact (hH i hi).kept (kept_grown hm h2)
  rcases hH k hk with ⟨h1, h2⟩ | ⟨i, h1, h2⟩ | ⟨h0, q, h2, h3⟩
  · refine (imp_fresh (p0 := p0) (nmI k) j w (nmI_size k) hn c1 hm h2).mono fun e w' ⟨he, hM, ht⟩ => ⟨he, fin w' _ hM ht.grown ?_, ht.grown⟩
    rw [h1]
    exact Or.inr (Or.inl ⟨j, rfl, rfl⟩)
  · have hi : i < 4 := hW.2 i (by rw [h1]; simp)
    refine (imp_second (nmI k) j w (nmI_size k) hn c1 hm hp hj hi h2 (fun e => hin (by rw [h1, e]; simp))).mono fun e w' ⟨he, q', hM, hA, hg⟩ => ⟨he, fin w' _ hM hg ?_, hg⟩
    rw [h1]
    exact Or.inr (Or.inr ⟨by simp, q', rfl, hA⟩)
  · refine (imp_more (nmI k) j w (nmI_size k) hn c1 hm hp hj h2 h3 hW.2 hW.length (by omega) hin).mono fun e w' ⟨he, q', hM, hA, hg⟩ => ⟨he, fin w' _ hM hg ?_, hg⟩
    exact Or.inr (Or.inr ⟨by simp; omega, q', rfl, hA⟩)

theorem grown_refl (w : World) (b : Option Nat) : w.grownBy w b := ⟨rfl, rfl, rfl, Nat.le_refl _, fun _ _ _ => rfl⟩
theorem grown_trans {w w1 w2 : World} {b : Option Nat} (h : w.grownBy w1 b) (h' : w1.grownBy w2 b) : w.grownBy w2 b :=
  ⟨h'.os.trans h.os, h'.tape.trans h.tape, h'.output.trans h.output, Nat.le_trans h.size h'.size, fun k hk hb => (h'.block k (Nat.lt_of_lt_of_le hk h.size) hb).trans (h.block k hk hb)⟩

/-- Both in one. -/
theorem import_one {b sb n p0 : Nat} {Ls : Nat → List Nat} (k j : Nat) (w : World) (hk : k < 3) (hj : j < 4) (hn : n < maxLen) (c1 : w.cell? ⟨sb, 1, none⟩ = some (.map (some b))) (hp : PoolIs w p0) (hN : Names w b n p0 Ls) (hW : Wf (Ls k)) :
    Calls Try.prog 16 #[.pointer (some ⟨sb, 0, none⟩), .string (nmI k), pv p0 j] w fun e w' => e = .returned (.bool (!decide (j ∈ Ls k))) ∧ Names w' b (n + 1) p0 (upds Ls k [j]) ∧ w.grownBy w' (some b) := by
  by_cases hin : j ∈ Ls k
  · refine (import_old k j w hk hj c1 hp hN hW hin).mono fun e w' ⟨he, hw⟩ => ?_
    subst hw
    refine ⟨by rw [he, decide_eq_true hin]; rfl, ?_, grown_refl _ _⟩
    have e1 : upds Ls k [j] = Ls := by
      funext i
      unfold upds
      split
      · rename_i h; rw [h]; simp [adds, addC, add, hin]
      · rfl
    rw [e1]
    exact hN.mono (by omega)
  · refine (import_new k j w hk hj hn c1 hp hN hW hin).mono fun e w' ⟨he, h1, h2⟩ => ⟨by rw [he, decide_eq_false hin]; rfl, h1, h2⟩

theorem index49 (b k len cap : Nat) (hk : k < len) (wx : World) : (Instr.indexAt 49 (.slice (some ⟨b, 0, none⟩) len cap) (.int .i64 k)).run Try.prog wx = .ok (.pointer (some ⟨b, k, none⟩)) wx := by
  have e : Try.prog.elem 49 = 37 := by simp [Program.elem, Try.underlying49]
  have sz : ∀ w : World, (sizeOf 37).run Try.prog w = .ok 1 w := fun w => by kernel_rfl
  rw [run_indexAt_slice wx 49 _ _ _ _ _ (by rw [e]; exact Try.underlying49), if_pos (by omega), e, sz]
  simp [Result.andThen, Addr.add]
  omega

set_option maxHeartbeats 1000000 in
/-- An Ambiguous: each of its entities in turn. -/
theorem import_amb {b sb n p0 q : Nat} {Ls : Nat → List Nat} {M : List Nat} (k : Nat) (w : World) (hk : k < 3) (hn : n < 1000) (c1 : w.cell? ⟨sb, 1, none⟩ = some (.map (some b))) (hp : PoolIs w p0) (hN : Names w b n p0 Ls) (hW : Wf (Ls k)) (hM : ∀ x ∈ M, x < 4) (hM4 : M.length ≤ 4) (hA : Amb w q p0 M) :
    Calls Try.prog 16 #[.pointer (some ⟨sb, 0, none⟩), .string (nmI k), .iface 48 (.pointer (some ⟨q, 0, none⟩))] w fun e w' => e = .returned (.bool (chg (Ls k) M)) ∧ Names w' b (n + M.length) p0 (upds Ls k M) ∧ w.grownBy w' (some b) := by
  have tb := assert48
  rcases Nat.eq_zero_or_pos M.length with h0 | hpos
  · obtain rfl : M = [] := List.eq_nil_of_length_eq_zero h0
    obtain ⟨s, v, hq, _, ⟨rfl, _⟩ | ⟨g, cap, cur, rfl, _⟩⟩ := hA
    · have d1 : w.cell? ⟨q, 1, none⟩ = some (.slice none 0 0) := by simp [World.cell?, hq]
      have HN : Hid (Names w b n p0 Ls) := hN
      clear hN hq
      go_enter Try.func16, Try.ntmps16
      go_wp2
      refine wp_loop_rounds 1 ?_
      rw [rounds_succ]
      go_wp2
      go_ret
      exact ⟨rfl, by rw [upds_nil]; exact HN.out, grown_refl _ _⟩
    · have d1 : w.cell? ⟨q, 1, none⟩ = some (.slice (some ⟨g, 0, none⟩) 0 cap) := by simp [World.cell?, hq]
      have HN : Hid (Names w b n p0 Ls) := hN
      clear hN hq
      go_enter Try.func16, Try.ntmps16
      go_wp2
      refine wp_loop_rounds 1 ?_
      rw [rounds_succ]
      go_wp2
      go_ret
      exact ⟨rfl, by rw [upds_nil]; exact HN.out, grown_refl _ _⟩
  · obtain ⟨g, cap, d1, hc1, hc2, hcs⟩ := hA.cells hpos
    have HN : Hid (Names w b n p0 Ls) := hN
    have HW : Hid (Wf (Ls k)) := hW
    have HM : Hid (∀ x ∈ M, x < 4) := hM
    have hne : g ≠ b ∧ sb ≠ b := by
      obtain ⟨m, hm, _⟩ := hN
      exact ⟨hm.ne_cell (hcs 0 hpos), hm.ne_cell c1⟩
    have HC : Hid (∀ i, i < M.length → w.cell? ⟨g, i, none⟩ = some (pv p0 (M.getD i 0))) := hcs
    clear hN hW hM hcs hc1 hc2 hA
    go_enter Try.func16, Try.ntmps16
    go_wp2
    go_loopw [9, 27] (fun ch i wr => ∃ t : Nat, t ≤ M.length ∧ i = .int .i64 t ∧ ch = .bool (chg (Ls k) (M.take t)) ∧ Names wr b (n + t) p0 (upds Ls k (M.take t)) ∧ w.grownBy wr (some b) ∧ PoolIs wr p0) (fun _ i _ => M.length - (intOf i).toNat)
    case atStart => exact ⟨0, Nat.zero_le _, rfl, rfl, by rw [List.take_zero, upds_nil]; exact HN.out, grown_refl _ _, hp⟩
    case round =>
      clear hp
      obtain ⟨t, ht, rfl, rfl, hNr, hg, hpr⟩ := hrel
      by_cases hlt : t < M.length
      · have k1 : wr.cell? ⟨sb, 1, none⟩ = some (.map (some b)) := (hg.cell_far _ (World.block_lt_of_cell? _ _ c1) (by simpa using hne.2)).trans c1
        have k2 : wr.cell? ⟨g, t, none⟩ = some (pv p0 (M.getD t 0)) := (hg.cell_far _ (World.block_lt_of_cell? _ _ (HC.out t hlt)) (by simpa using hne.1)).trans (HC.out t hlt)
        have hx4 : M.getD t 0 < 4 := HM.out _ (by simp [List.getD, hlt])
        have HS : Hid (M.take (t + 1) = M.take t ++ [M.getD t 0]) := by
          show M.take (t + 1) = M.take t ++ [M.getD t 0]
          rw [List.take_succ_eq_append_getElem hlt]
          simp [List.getD, hlt]
        generalize M.getD t 0 = x at k2 hx4 HS
        have hWr : Wf (adds (Ls k) (M.take t)) := Wf.adds HW.out _ (fun y hy => HM.out y (List.mem_of_mem_take hy))
        have hI := import_one k x wr hk hx4 (by unfold maxLen; omega) k1 hpr hNr (by rw [upds_at]; exact hWr)
        rw [upds_at, ← upds_snoc] at hI
        have ix := index49 g t M.length cap hlt
        have HI : Hid _ := hI
        have HNr : Hid (Names wr b (n + t) p0 (upds Ls k (M.take t))) := hNr
        clear hI hNr hWr
        have hmm : Hid (chg (Ls k) (M.take (t + 1)) = (!decide (x ∈ adds (Ls k) (M.take t)) || chg (Ls k) (M.take t))) := by
          show chg (Ls k) (M.take (t + 1)) = _
          rw [HS.out, chg_snoc]
        by_cases hin : x ∈ adds (Ls k) (M.take t)
        · rw [decide_eq_true hin] at HI hmm
          clear hin
          go_wp2_with (go_at_call 16; refine Calls.mono HI.out ?_; rintro e w' ⟨rfl, hN', hg'⟩)
          go_roundw
          case rel =>
            refine ⟨t + 1, by omega, by go_num, by rw [hmm.out]; rfl, by rw [HS.out]; exact hN', grown_trans hg hg', ?_⟩
            obtain ⟨m, hm, _⟩ := HNr.out
            exact pool_grown hpr hm hg'
          case measure => simp [intOf]; omega
        · rw [decide_eq_false hin] at HI hmm
          clear hin
          go_wp2_with (go_at_call 16; refine Calls.mono HI.out ?_; rintro e w' ⟨rfl, hN', hg'⟩)
          go_roundw
          case rel =>
            refine ⟨t + 1, by omega, by go_num, by rw [hmm.out]; rfl, by rw [HS.out]; exact hN', grown_trans hg hg', ?_⟩
            obtain ⟨m, hm, _⟩ := HNr.out
            exact pool_grown hpr hm hg'
          case measure => simp [intOf]; omega
      · have e : M.take t = M := List.take_of_length_le (by omega)
        have e2 : t = M.length := by omega
        subst e2
        go_wp2
        go_ret
        rw [e] at hNr
        exact ⟨by rw [e]; rfl, hNr, hg⟩

end Go.Proofs.Qxb6003857a
