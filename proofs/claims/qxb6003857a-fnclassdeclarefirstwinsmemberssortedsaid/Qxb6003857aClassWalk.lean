/-
  THE LAW ON Declare: the walk.
-/
import Derived.Test.Qxb6003857aClassInv
import Derived.Deep.RegionWith
import Derived.Deep.QuietTactic
import Derived.BigQuiet
namespace Go.Proofs.Qxb6003857a
open Go.RowKit Go.Maps Go.WideMaps

set_option maxRecDepth 100000 in
theorem cls_big (a0 : Option Addr) (len0 cap0 : Nat) (w : World) (h : 64 < len0) (hm : len0 ≤ maxLen) :
    Calls Try.prog 5 #[.slice a0 len0 cap0] w fun e w' => e = .returned (.bool true) ∧ Below w.heap.size w w' := by
  unfold maxLen at hm
  by_cases h2 : len0 ≤ 1048576
  · go_enter Try.func5, Try.ntmps5
    go_wp2
    go_ret
    exact ⟨rfl, Below.refl _ _⟩
  · go_enter Try.func5, Try.ntmps5
    go_wp2
    go_ret
    exact ⟨rfl, Below.refl _ _⟩

theorem size5' (w : World) : (sizeOf 5).run Try.prog w = .ok 1 w := by kernel_rfl

theorem index22' (b k len : Nat) (hk : k < len) (wx : World) : (Instr.indexAt 22 (.slice (some ⟨b, 0, none⟩) len len) (.int .i64 k)).run Try.prog wx = .ok (.pointer (some ⟨b, k, none⟩)) wx := by
  have e : Try.prog.elem 22 = 5 := by simp [Program.elem, Try.underlying22]
  rw [run_indexAt_slice wx 22 _ _ _ _ _ (by rw [e]; exact Try.underlying22), if_pos (by omega), e, size5']
  simp [Result.andThen, Addr.add]
  omega

/-- How many of the first q names have a member. -/
def cntM (p : Nat → Option Addr) (q : Nat) : Nat := ((List.range q).filter (fun k => (p k).isSome)).length

theorem cntM_le (p : Nat → Option Addr) (q : Nat) : cntM p q ≤ q := by
  have := List.length_filter_le (fun k => (p k).isSome) (List.range q)
  simpa [cntM] using this
theorem cntM_none {p : Nat → Option Addr} {q : Nat} (h : p q = none) : cntM p (q + 1) = cntM p q := by simp [cntM, List.range_succ, List.filter_append, h]
theorem cntM_some {p : Nat → Option Addr} {q : Nat} {u : Addr} (h : p q = some u) : cntM p (q + 1) = cntM p q + 1 := by simp [cntM, List.range_succ, List.filter_append, h]
theorem cntM_six (p : Nat → Option Addr) : cntM p 6 = (presM p).length := by
  have : (List.range 6).Perm ordM := by decide
  exact (this.filter _).length_eq

/-- The members' slice, cell by cell. -/
def RowsM (w : World) (g : Nat) (p : Nat → Option Addr) : Prop := ∀ i, i < (presM p).length → w.cell? ⟨g, i, none⟩ = some (.pointer (p ((presM p).getD i 0)))

theorem presM_length (p : Nat → Option Addr) : (presM p).length ≤ 6 := List.length_filter_le _ _

theorem RowsM.at {w : World} {g lo t : Nat} {p : Nat → Option Addr} (h : RowsM w g p) (hn : Named w lo p) (ht : t < (presM p).length) :
    ∃ j q, j < 6 ∧ Hid ((presM p)[t]? = some j) ∧ Hid (p j = some ⟨q, 0, none⟩) ∧ lo ≤ q ∧ w.cell? ⟨q, 0, none⟩ = some (.string (nmM j)) ∧ w.cell? ⟨g, t, none⟩ = some (.pointer (some ⟨q, 0, none⟩)) := by
  have h1 := h t ht
  have hm : (presM p).getD t 0 ∈ presM p := by simp [List.getD, ht]
  have h0 : (presM p)[t]? = some ((presM p).getD t 0) := by simp [List.getD, ht]
  generalize (presM p).getD t 0 = j at h1 hm h0
  obtain ⟨hj6, hj⟩ := presM_mem hm
  obtain ⟨a, ha⟩ := Option.isSome_iff_exists.1 hj
  obtain ⟨q, rfl, hq, hc⟩ := hn j hj6 a ha
  rw [ha] at h1
  exact ⟨j, q, hj6, h0, ha, hq, hc, h1⟩

theorem size66 (w : World) : (sizeOf 66).run Try.prog w = .ok 1 w := by kernel_rfl

theorem index78 (g k len cap : Nat) (hk : k < len) (wx : World) : (Instr.indexAt 78 (.slice (some ⟨g, 0, none⟩) len cap) (.int .i64 k)).run Try.prog wx = .ok (.pointer (some ⟨g, k, none⟩)) wx := by
  have e : Try.prog.elem 78 = 66 := by simp [Program.elem, Try.underlying78]
  rw [run_indexAt_slice wx 78 _ _ _ _ _ (by rw [e]; exact Try.underlying78), if_pos (by omega), e, size66]
  simp [Result.andThen, Addr.add]
  omega

theorem quiet_more {P : Program} {f : FuncId} {args : Array Value} {w : World} {a n : Nat} {v : Value}
    (h : Calls P f args (w.drewN (a + n)) fun e w' => e = .returned v ∧ ∃ m, w' = (w.drewN (a + n)).drewN m) : Calls P f args (w.drewN (a + n)) fun e w'' => e = .returned v ∧ ∃ m, w'' = w.drewN (a + m) :=
  h.mono fun _ _ ⟨he, m, hm⟩ => ⟨he, n + m, by rw [hm, World.drewN_drewN, Nat.add_assoc]⟩

theorem quiet_more_same {P : Program} {f : FuncId} {args : Array Value} {w : World} {a n : Nat} {v : Value}
    (h : Calls P f args (w.drewN (a + n)) fun e w' => e = .returned v ∧ w' = w.drewN (a + n)) : Calls P f args (w.drewN (a + n)) fun e w'' => e = .returned v ∧ ∃ m, w'' = w.drewN (a + m) :=
  h.mono fun _ _ ⟨he, hm⟩ => ⟨he, n, hm⟩

theorem InvC.drewN {w1 wr : World} {n : Nat} {p c : Nat → Option Addr} (h : InvC w1 wr n p c) (m : Nat) : InvC w1 (wr.drewN m) n p c := h.keep ⟨rfl, rfl, rfl, Nat.le_refl _, fun _ _ => rfl⟩

section
variable {w1 wr : World} {n q : Nat} {p c : Nat → Option Addr}

theorem InvC.find26 (h : InvC w1 wr n p c) (hq : q < 6) (m : Nat) :
    Calls Try.prog 26 #[.pointer (some ⟨w1.heap.size + 1 + 1 + 1 + 1, 0, none⟩), .string (nmM q), .pointer (some ⟨w1.heap.size, 0, none⟩)] (wr.drewN m) fun e w' => e = .returned (.pointer (p q)) ∧ w' = wr.drewN m := by
  have hI := h.drewN m
  obtain ⟨f, h1, h2, _⟩ := hI.pM
  refine (find26_any (wr.drewN m) hq hI.lib hI.lib hI.k1 hI.k8 h1).mono fun e w' ⟨he, hw⟩ => ⟨he.trans ?_, hw⟩
  rw [if_pos (.inr rfl), h2 q hq, ptrV_eq]

theorem InvC.find27 (h : InvC w1 wr n p c) (hq : q < 6) (m : Nat) :
    Calls Try.prog 27 #[.pointer (some ⟨w1.heap.size + 1 + 1 + 1 + 1, 0, none⟩), .string (nmM q), .pointer (some ⟨w1.heap.size, 0, none⟩)] (wr.drewN m) fun e w' => e = .returned (.pointer (c q)) ∧ w' = wr.drewN m := by
  have hI := h.drewN m
  obtain ⟨f, h1, h2, _⟩ := hI.cM
  refine (find27_any (wr.drewN m) hq hI.lib hI.lib hI.k1 hI.k9 h1).mono fun e w' ⟨he, hw⟩ => ⟨he.trans ?_, hw⟩
  rw [if_pos (.inr rfl), h2 q hq, ptrV_eq]

theorem InvC.find26o (h : InvC w1 wr n p c) (hq : q < 6) (m : Nat) (h1 : q ≠ 1) :
    Calls Try.prog 26 #[.pointer (some ⟨w1.heap.size + 1 + 1 + 1 + 1, 0, none⟩), .string (nmM q), .pointer (some ⟨w1.heap.size + 1, 0, none⟩)] (wr.drewN m) fun e w' => e = .returned (.pointer (p q)) ∧ w' = wr.drewN m := by
  have hI := h.drewN m
  obtain ⟨f, h3, h2, _⟩ := hI.pM
  refine (find26_any (wr.drewN m) hq hI.oth hI.lib hI.k1 hI.k8 h3).mono fun e w' ⟨he, hw⟩ => ⟨he.trans ?_, hw⟩
  rw [if_pos (.inl h1), h2 q hq, ptrV_eq]

theorem InvC.find27o (h : InvC w1 wr n p c) (hq : q < 6) (m : Nat) (h1 : q ≠ 1) :
    Calls Try.prog 27 #[.pointer (some ⟨w1.heap.size + 1 + 1 + 1 + 1, 0, none⟩), .string (nmM q), .pointer (some ⟨w1.heap.size + 1, 0, none⟩)] (wr.drewN m) fun e w' => e = .returned (.pointer (c q)) ∧ w' = wr.drewN m := by
  have hI := h.drewN m
  obtain ⟨f, h3, h2, _⟩ := hI.cM
  refine (find27_any (wr.drewN m) hq hI.oth hI.lib hI.k1 hI.k9 h3).mono fun e w' ⟨he, hw⟩ => ⟨he.trans ?_, hw⟩
  rw [if_pos (.inl h1), h2 q hq, ptrV_eq]

theorem InvC.find26p (h : InvC w1 wr n p c) (m : Nat) :
    Calls Try.prog 26 #[.pointer (some ⟨w1.heap.size + 1 + 1 + 1 + 1, 0, none⟩), .string (nmM 1), .pointer (some ⟨w1.heap.size + 1, 0, none⟩)] (wr.drewN m) fun e w' => e = .returned (.pointer none) ∧ w' = wr.drewN m := by
  have hI := h.drewN m
  obtain ⟨f, h3, h2, _⟩ := hI.pM
  refine (find26_any (wr.drewN m) (by decide) hI.oth hI.lib hI.k1 hI.k8 h3).mono fun e w' ⟨he, hw⟩ => ⟨he.trans ?_, hw⟩
  rw [if_neg (by omega)]

theorem InvC.find27p (h : InvC w1 wr n p c) (m : Nat) :
    Calls Try.prog 27 #[.pointer (some ⟨w1.heap.size + 1 + 1 + 1 + 1, 0, none⟩), .string (nmM 1), .pointer (some ⟨w1.heap.size + 1, 0, none⟩)] (wr.drewN m) fun e w' => e = .returned (.pointer none) ∧ w' = wr.drewN m := by
  have hI := h.drewN m
  obtain ⟨f, h3, h2, _⟩ := hI.cM
  refine (find27_any (wr.drewN m) (by decide) hI.oth hI.lib hI.k1 hI.k9 h3).mono fun e w' ⟨he, hw⟩ => ⟨he.trans ?_, hw⟩
  rw [if_neg (by omega)]

end

/-- The first byte of a name that is not the private one, and not empty. -/
theorem nmM_first (q : Nat) (hq : q < 6) (h1 : q ≠ 1) (h4 : q ≠ 4) : ∃ b : Int, (0 : Int) < ((nmM q).size : Int) ∧ (b == 95) = false ∧ ∀ wx : World, (Instr.index 9 (.string (nmM q)) (.int .i64 0)).run Try.prog wx = .ok (.int .u8 b) wx := by
  have : q = 0 ∨ q = 2 ∨ q = 3 ∨ q = 5 := by omega
  rcases this with rfl | rfl | rfl | rfl
  · exact ⟨98, by decide, by decide, fun wx => by rw [run_index_string wx 9 _ _ _ Try.underlying9, dif_pos (by decide)]; rfl⟩
  · exact ⟨97, by decide, by decide, fun wx => by rw [run_index_string wx 9 _ _ _ Try.underlying9, dif_pos (by decide)]; rfl⟩
  · exact ⟨97, by decide, by decide, fun wx => by rw [run_index_string wx 9 _ _ _ Try.underlying9, dif_pos (by decide)]; rfl⟩
  · exact ⟨90, by decide, by decide, fun wx => by rw [run_index_string wx 9 _ _ _ Try.underlying9, dif_pos (by decide)]; rfl⟩

theorem nmM_private (wx : World) : (Instr.index 9 (.string (nmM 1)) (.int .i64 0)).run Try.prog wx = .ok (.int .u8 95) wx := by
  rw [run_index_string wx 9 _ _ _ Try.underlying9, dif_pos (by decide)]; rfl

set_option maxRecDepth 100000 in
set_option maxHeartbeats 4000000 in
theorem cls_small (a0 : Option Addr) (len0 cap0 : Nat) (z0 : List Int) (w : World) (h : len0 ≤ 64) (w0 : IsRow .u8 w a0 len0 cap0 z0) :
    Calls Try.prog 5 #[.slice a0 len0 cap0] w fun e w' => e = .returned (.bool true) ∧ Below w.heap.size w w' := by
  have W0 : Hid (IsRow .u8 w a0 len0 cap0 z0) := w0
  clear w0
  go_enter Try.func5, Try.ntmps5
  go_wp2_with (first
    | (go_at_call 7; refine (clone_any _ _ _ _ _ W0.out h).mono ?_; rintro e w1 ⟨a1, b1, rfl, hb1, hc1⟩)
    | (go_at_call 19; refine (newClass_any _ _).mono ?_; rintro e w' ⟨rfl, rfl⟩)
    | (go_at_call 18; go_in))
  go_loopw [8] (fun i wr => ∃ k : Nat, ∃ p c : Nat → Option Addr, k ≤ len0 ∧ i = .int .i64 k ∧ InvC w1 wr k p c) (fun i _ => len0 - (intOf i).toNat)
  case atStart => exact ⟨0, _, _, Nat.zero_le _, rfl, InvC.start w1⟩
  case round =>
    obtain ⟨k, p, c, hk, rfl, hI⟩ := hrel
    by_cases hlt : k < len0
    · obtain ⟨ha1, hb, o, ho, hco⟩ := hc1 k hlt
      have hcr : wr.cell? ⟨b1, k, none⟩ = some (.int .u8 o) := (hI.below.cell (p := ⟨b1, k, none⟩) hb).trans hco
      have hix : ∀ wx : World, (Instr.indexAt 22 (.slice a1 len0 len0) (.int .i64 k)).run Try.prog wx = .ok (.pointer (some ⟨b1, k, none⟩)) wx := by
        intro wx
        rw [ha1]
        exact index22' b1 k len0 hlt wx
      clear ha1 hc1 hco W0
      go_wp2_with fail
      obtain ⟨j, hj, hj6⟩ : ∃ j : Nat, (o : Int) / 2 % 6 = j ∧ j < 6 := ⟨o / 2 % 6, by omega, by omega⟩
      rw [hj]
      clear hj
      refine (memberName_any j _ hj6).mono ?_
      rintro e w' ⟨rfl, rfl⟩
      go_wp2_with fail
      · have hI2 : InvC w1 (w'.alloc (Obj.cells #[Value.string (nmM j), Value.int IntKind.i64 (↑o / 16 % 3), Value.nilIface, Value.bool false, Value.bool false, Value.bool false, Value.bool false] 72)) k p c := hI.keep ((Below.refl _ _).alloc (Nat.le_refl _) _)
        have hcq : (w'.alloc (Obj.cells #[Value.string (nmM j), Value.int IntKind.i64 (↑o / 16 % 3), Value.nilIface, Value.bool false, Value.bool false, Value.bool false, Value.bool false] 72)).cell? ⟨w'.heap.size, 0, none⟩ = some (.string (nmM j)) := World.cell?_alloc_new (w := w') #[Value.string (nmM j), Value.int IntKind.i64 (↑o / 16 % 3), Value.nilIface, Value.bool false, Value.bool false, Value.bool false, Value.bool false] 72 0
        have hq : w1.heap.size + 7 ≤ w'.heap.size := hI.size
        generalize w'.alloc (Obj.cells #[Value.string (nmM j), Value.int IntKind.i64 (↑o / 16 % 3), Value.nilIface, Value.bool false, Value.bool false, Value.bool false, Value.bool false] 72) = w2 at hI2 hcq ⊢
        generalize w'.heap.size = q at hcq hq ⊢
        have hI3 : InvC w1 w2.drew k p c := hI2.keep (Below.refl _ _).drew
        have hcq : w2.drew.cell? ⟨q, 0, none⟩ = some (.string (nmM j)) := hcq
        have c1 := hI3.k8
        have c2 : w2.drew.cell? ⟨w1.heap.size + 1 + 1 + 1 + 1 + 1, j, none⟩ = some (.pointer (p j)) := by simpa using hI3.pA.cell hj6
        have f2 : w2.drew.frozen? ⟨w1.heap.size + 1 + 1 + 1 + 1 + 1, j, none⟩ = false := hI3.pA.frozen j
        have hne := neq66 (p j)
        clear hI hcr
        go_region_with (go_at_call 21; refine (declare21_tab _ hj6 (by omega) c1 hcq hI3.pM).mono ?_; rintro e w3 ⟨rfl, hT, hturn⟩; have c3 := cell_block c2 (hturn.block _ (World.block_lt_of_cell? _ _ c2) (by show w1.heap.size + 1 + 1 + 1 + 1 + 1 ≠ w1.heap.size + 1 + 1; omega)); have f3 := (hI3.pA.of_block (hturn.block _ hI3.pA.lt (by omega))).frozen j)
        all_goals
          clear c1 c2 f2 hne
          cases hcj : p j with
          | none =>
            have hJ := hI3.mem_new hturn hT hcj hq hcq
            rw [hcj] at c3
            clear hcj hI2 hI3 hT hturn
            go_wp2
            go_roundw
            case rel => exact ⟨k + 1, _, _, by omega, by go_num, hJ⟩
            case measure => simp [intOf]; omega
          | some u =>
            have hJ := hI3.mem_old hturn hT hcj hq hcq
            rw [hcj] at c3
            clear hcj hI2 hI3 hT hturn
            go_wp2
            go_roundw
            case rel => exact ⟨k + 1, _, _, by omega, by go_num, hJ⟩
            case measure => simp [intOf]; omega
      · have hI2 : InvC w1 (w'.alloc (Obj.cells #[Value.string (nmM j), Value.pointer none, Value.bool (bits BinOp.and IntKind.u8 (↑o / 16) 1 == 1)] 76)) k p c := hI.keep ((Below.refl _ _).alloc (Nat.le_refl _) _)
        have hcq : (w'.alloc (Obj.cells #[Value.string (nmM j), Value.pointer none, Value.bool (bits BinOp.and IntKind.u8 (↑o / 16) 1 == 1)] 76)).cell? ⟨w'.heap.size, 0, none⟩ = some (.string (nmM j)) := World.cell?_alloc_new (w := w') #[Value.string (nmM j), Value.pointer none, Value.bool (bits BinOp.and IntKind.u8 (↑o / 16) 1 == 1)] 76 0
        have hq : w1.heap.size + 7 ≤ w'.heap.size := hI.size
        generalize w'.alloc (Obj.cells #[Value.string (nmM j), Value.pointer none, Value.bool (bits BinOp.and IntKind.u8 (↑o / 16) 1 == 1)] 76) = w2 at hI2 hcq ⊢
        generalize w'.heap.size = q at hcq hq ⊢
        have hI3 : InvC w1 w2.drew k p c := hI2.keep (Below.refl _ _).drew
        have hcq : w2.drew.cell? ⟨q, 0, none⟩ = some (.string (nmM j)) := hcq
        have c1 := hI3.k9
        have c2 : w2.drew.cell? ⟨w1.heap.size + 1 + 1 + 1 + 1 + 1 + 1, j, none⟩ = some (.pointer (c j)) := by simpa using hI3.cA.cell hj6
        have f2 : w2.drew.frozen? ⟨w1.heap.size + 1 + 1 + 1 + 1 + 1 + 1, j, none⟩ = false := hI3.cA.frozen j
        have hne := neq68 (c j)
        clear hI hcr
        go_region_with (go_at_call 22; refine (declare22_tab _ hj6 (by omega) c1 hcq hI3.cM).mono ?_; rintro e w3 ⟨rfl, hT, hturn⟩; have c3 := cell_block c2 (hturn.block _ (World.block_lt_of_cell? _ _ c2) (by show w1.heap.size + 1 + 1 + 1 + 1 + 1 + 1 ≠ w1.heap.size + 1 + 1 + 1; omega)); have f3 := (hI3.cA.of_block (hturn.block _ hI3.cA.lt (by omega))).frozen j)
        all_goals
          clear c1 c2 f2 hne
          cases hcj : c j with
          | none =>
            have hJ := hI3.ctor_new hturn hT hcj
            rw [hcj] at c3
            clear hcj hI2 hI3 hT hturn
            go_wp2
            go_roundw
            case rel => exact ⟨k + 1, _, _, by omega, by go_num, hJ⟩
            case measure => simp [intOf]; omega
          | some u =>
            have hJ := hI3.ctor_old hturn hT hcj
            rw [hcj] at c3
            clear hcj hI2 hI3 hT hturn
            go_wp2
            go_roundw
            case rel => exact ⟨k + 1, _, _, by omega, by go_num, hJ⟩
            case measure => simp [intOf]; omega
    · clear hc1 W0
      go_wp2
      have hk' : Hid (k ≤ len0) := hk
      clear hk
      go_loopw [14, 15] (fun cv i wr => ∃ q : Nat, q ≤ 6 ∧ i = .int .i64 q ∧ cv = .int .i64 (cntM p q : Nat) ∧ InvC w1 wr k p c) (fun _ i _ => 6 - (intOf i).toNat)
      case atStart => exact ⟨0, by omega, rfl, rfl, hI⟩
      case round =>
        clear hI
        obtain ⟨q, hq, rfl, rfl, hI⟩ := hrel
        have hcnt := cntM_le p q
        by_cases hq6 : q < 6
        · have c1 : wr.cell? ⟨w1.heap.size + 1 + 1 + 1 + 1 + 1, q, none⟩ = some (.pointer (p q)) := hI.pA.cell hq6
          cases hpq : p q with
          | none =>
            rw [hpq] at c1
            have HP : Hid (p q = none) := hpq
            clear hpq
            go_wp2
            go_roundw
            case rel => exact ⟨q + 1, by omega, by go_num, by rw [cntM_none HP.out], hI⟩
            case measure => simp [intOf]; omega
          | some u =>
            rw [hpq] at c1
            have HP : Hid (p q = some u) := hpq
            clear hpq
            go_wp2
            go_roundw
            case rel => exact ⟨q + 1, by omega, by go_num, by rw [cntM_some HP.out]; go_num, hI⟩
            case measure => simp [intOf]; omega
        · have hq7 : q = 6 := by omega
          subst hq7
          rw [cntM_six]
          clear hcnt
          go_wp2_with (go_at_call 23; refine (members_any _ hI.k8 hI.pM).mono ?_; rintro e w5 ⟨g, rfl, hb5, hms⟩)
          have hI5 : InvC w1 w5 k p c := hI.keep hb5
          have hR5 : RowsM w5 g p := hms
          clear hI hb5 hms
          go_loopw [17] (fun i wr => ∃ t : Nat, t ≤ (presM p).length ∧ i = .int .i64 t ∧ InvC w1 wr k p c ∧ RowsM wr g p) (fun i _ => (presM p).length - (intOf i).toNat)
          case atStart => exact ⟨0, by omega, rfl, hI5, hR5⟩
          case round =>
            clear hI5 hR5
            obtain ⟨t, ht, rfl, hI, hR⟩ := hrel
            have hle := presM_length p
            by_cases htl : t < (presM p).length
            · obtain ⟨j, q, hj6, hjt, hpj, hq, cq, cg⟩ := hR.at hI.nm htl
              have cA : wr.cell? ⟨w1.heap.size + 1 + 1 + 1 + 1 + 1, j, none⟩ = some (.pointer (some ⟨q, 0, none⟩)) := by rw [← hpj.out]; exact hI.pA.cell hj6
              have hix := index78 g t _ (presM p).length htl
              have hne := neq66 (some ⟨q, 0, none⟩)
              go_wp2_with (go_at_call 24; refine (memberIndex_any j _ hj6).mono ?_; rintro e w' ⟨rfl, rfl⟩)
              have cb : decide ((j : Int) < 0) = false := decide_eq_false (by omega)
              go_quiet (fail)
              clear cA cb
              go_wp2
              by_cases ht0 : t = 0
              · subst ht0
                have cb2 : decide ((0 : Int) < ((0 : Nat) : Int)) = false := by decide
                go_quiet (fail)
                go_wp2
                go_roundw
                case rel => exact ⟨1, by omega, by go_num, hI.keep ⟨rfl, rfl, rfl, Nat.le_refl _, fun _ _ => rfl⟩, hR⟩
                case measure => simp [intOf]; omega
              · obtain ⟨t', rfl⟩ : ∃ t', t = t' + 1 := ⟨t - 1, by omega⟩
                obtain ⟨j', q', hj6', hjt', hpj', hq', cq', cg'⟩ := hR.at hI.nm (t := t') (by omega)
                have hix' := index78 g t' _ (presM p).length (Nat.lt_of_succ_lt htl)
                have hrk : rankM j' < rankM j := by
                  have h1 := presM_rank p
                  have h2 := hjt.out
                  have h3 := hjt'.out
                  obtain ⟨l2, e2⟩ := List.getElem?_eq_some_iff.1 h2
                  obtain ⟨l3, e3⟩ := List.getElem?_eq_some_iff.1 h3
                  have := List.pairwise_iff_getElem.1 h1 t' (t' + 1) l3 l2 (by omega)
                  rw [e2, e3] at this
                  exact this
                have cb2 : decide ((0 : Int) < ((t' + 1 : Nat) : Int)) = true := decide_eq_true (by omega)
                have hixA : ∀ wx : World, (Instr.indexAt 78 (.slice (some ⟨g, 0, none⟩) (presM p).length (presM p).length) (.int .i64 ((t' : Int) + 1 - 1))).run Try.prog wx = .ok (.pointer (some ⟨g, t', none⟩)) wx := by
                  rw [show (t' : Int) + 1 - 1 = t' by omega]; exact hix'
                have hixB : ∀ wx : World, (Instr.indexAt 78 (.slice (some ⟨g, 0, none⟩) (presM p).length (presM p).length) (.int .i64 ((t' : Int) + 1))).run Try.prog wx = .ok (.pointer (some ⟨g, t' + 1, none⟩)) wx := hix
                have cb3 : decide ((0 : Int) < (t' : Int) + 1) = true := decide_eq_true (by omega)
                have hwrap : IntKind.i64.wrap (t' : Int) = t' := IntWalk.i64_in _ (by omega)
                go_quiet ((go_at_call 25; exact quiet_more (less_any j' j _ hj6' hj6 hrk)))
                go_wp2
                go_roundw
                case rel => exact ⟨t' + 1 + 1, by omega, by go_num, hI.keep ⟨rfl, rfl, rfl, Nat.le_refl _, fun _ _ => rfl⟩, hR⟩
                case measure => simp [intOf]; omega
            · clear hR
              go_wp2
              clear htl hle
              go_loopw [19] (fun i wr => ∃ q : Nat, q ≤ 6 ∧ i = .int .i64 q ∧ InvC w1 wr k p c) (fun i _ => 6 - (intOf i).toNat)
              case atStart => exact ⟨0, by omega, rfl, hI⟩
              case round =>
                clear hI
                obtain ⟨q, hq, rfl, hI⟩ := hrel
                by_cases hq6 : q < 6
                · have cA : wr.cell? ⟨w1.heap.size + 1 + 1 + 1 + 1 + 1, q, none⟩ = some (.pointer (p q)) := hI.pA.cell hq6
                  have cC : wr.cell? ⟨w1.heap.size + 1 + 1 + 1 + 1 + 1 + 1, q, none⟩ = some (.pointer (c q)) := hI.cA.cell hq6
                  have hn66 := neq66 (p q)
                  have hn68 := neq68 (c q)
                  go_wp2_with (go_at_call 20; refine (memberName_any q _ hq6).mono ?_; rintro e w' ⟨rfl, rfl⟩)
                  go_quiet (first
                    | (go_at_call 26; exact Calls.quiet_of_same (hI.find26 hq6 _))
                    | (go_at_call 27; exact Calls.quiet_of_same (hI.find27 hq6 _)))
                  by_cases h1 : q = 1
                  · subst h1
                    have hP := nmM_private
                    have hs0 : (0 : Int) < ((nmM 1).size : Int) := by decide
                    have hm66 := neq66 none
                    have hm68 := neq68 none
                    clear hn66 hn68 cA cC
                    go_wp2_with (first
                      | (go_at_call 26; refine (hI.find26p _).mono ?_; rintro e w5 ⟨rfl, rfl⟩)
                      | (go_at_call 27; refine (hI.find27p _).mono ?_; rintro e w6 ⟨rfl, rfl⟩))
                    go_roundw
                    case rel => exact ⟨2, by omega, by go_num, hI.drewN _⟩
                    case measure => simp [intOf]
                  · have H1 : Hid (q ≠ 1) := h1
                    by_cases h4 : q = 4
                    · subst h4
                      clear h1
                      have hs0 : ¬ (0 : Int) < ((nmM 4).size : Int) := by decide
                      go_wp2
                      go_quiet (first
                        | (go_at_call 26; exact quiet_more_same (hI.find26o hq6 _ H1.out))
                        | (go_at_call 27; exact quiet_more_same (hI.find27o hq6 _ H1.out)))
                      go_wp2
                      go_roundw
                      case rel => exact ⟨5, by omega, by go_num, hI.drewN _⟩
                      case measure => simp [intOf]
                    · obtain ⟨b, hs0, hb, hix⟩ := nmM_first q hq6 h1 h4
                      clear h1 h4
                      go_wp2
                      go_quiet (first
                        | (go_at_call 26; exact quiet_more_same (hI.find26o hq6 _ H1.out))
                        | (go_at_call 27; exact quiet_more_same (hI.find27o hq6 _ H1.out)))
                      go_wp2
                      go_roundw
                      case rel => exact ⟨q + 1, by omega, by go_num, hI.drewN _⟩
                      case measure => simp [intOf]; omega
                · go_wp2
                  go_ret
                  exact ⟨rfl, hb1.trans (hI.below.mono hb1.size)⟩

end Go.Proofs.Qxb6003857a
