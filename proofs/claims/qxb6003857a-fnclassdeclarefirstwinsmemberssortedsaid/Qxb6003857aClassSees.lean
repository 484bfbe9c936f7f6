/-
  THE LAW ON Declare: who sees what; the order of names.
-/
import Derived.Test.Qxb6003857aClassLeaf
import Derived.Deep.Draws
import Derived.LaidEqlPtr
namespace Go.Proofs.Qxb6003857a
open Go.RowKit Go.Maps Go.WideMaps

set_option maxHeartbeats 400000 in
/-- IsPrivate. -/
theorem isPrivate_any (k : Nat) (w : World) (hk : k < 6) :
    Calls Try.prog 37 #[.string (nmM k)] w fun e w' => e = .returned (.bool (decide (k = 1))) ∧ w' = w := by
  have : k = 0 ∨ k = 1 ∨ k = 2 ∨ k = 3 ∨ k = 4 ∨ k = 5 := by omega
  rcases this with rfl | rfl | rfl | rfl | rfl | rfl <;>
  · simp only [nmM]
    go_enter Try.func37, Try.ntmps37
    go_wp2_with (first
      | (go_at_call 41; go_in)
      | (go_at_call 53; go_in))
    go_ret
    exact ⟨by kernel_rfl, rfl⟩

set_option maxHeartbeats 1000000 in
/-- zzMemberIndex. -/
theorem memberIndex_any (k : Nat) (w : World) (hk : k < 6) :
    Calls Try.prog 24 #[.string (nmM k)] w fun e w' => e = .returned (.int .i64 k) ∧ w' = w := by
  have : k = 0 ∨ k = 1 ∨ k = 2 ∨ k = 3 ∨ k = 4 ∨ k = 5 := by omega
  rcases this with rfl | rfl | rfl | rfl | rfl | rfl
  · simp only [nmM]
    go_enter Try.func24, Try.ntmps24
    go_wp2
    refine wp_loop_rounds 1 ?_
    rw [rounds_succ]
    go_wp2_with (go_at_call 20; go_in)
    go_ret
    exact ⟨by kernel_rfl, rfl⟩
  · simp only [nmM]
    go_enter Try.func24, Try.ntmps24
    go_wp2
    refine wp_loop_rounds 2 ?_
    rw [rounds_succ]
    go_wp2_with (go_at_call 20; go_in)
    rw [rounds_succ]
    go_wp2_with (go_at_call 20; go_in)
    go_ret
    exact ⟨by kernel_rfl, rfl⟩
  · simp only [nmM]
    go_enter Try.func24, Try.ntmps24
    go_wp2
    refine wp_loop_rounds 3 ?_
    rw [rounds_succ]
    go_wp2_with (go_at_call 20; go_in)
    rw [rounds_succ]
    go_wp2_with (go_at_call 20; go_in)
    rw [rounds_succ]
    go_wp2_with (go_at_call 20; go_in)
    go_ret
    exact ⟨by kernel_rfl, rfl⟩
  · simp only [nmM]
    go_enter Try.func24, Try.ntmps24
    go_wp2
    refine wp_loop_rounds 4 ?_
    rw [rounds_succ]
    go_wp2_with (go_at_call 20; go_in)
    rw [rounds_succ]
    go_wp2_with (go_at_call 20; go_in)
    rw [rounds_succ]
    go_wp2_with (go_at_call 20; go_in)
    rw [rounds_succ]
    go_wp2_with (go_at_call 20; go_in)
    go_ret
    exact ⟨by kernel_rfl, rfl⟩
  · simp only [nmM]
    go_enter Try.func24, Try.ntmps24
    go_wp2
    refine wp_loop_rounds 5 ?_
    rw [rounds_succ]
    go_wp2_with (go_at_call 20; go_in)
    rw [rounds_succ]
    go_wp2_with (go_at_call 20; go_in)
    rw [rounds_succ]
    go_wp2_with (go_at_call 20; go_in)
    rw [rounds_succ]
    go_wp2_with (go_at_call 20; go_in)
    rw [rounds_succ]
    go_wp2_with (go_at_call 20; go_in)
    go_ret
    exact ⟨by kernel_rfl, rfl⟩
  · simp only [nmM]
    go_enter Try.func24, Try.ntmps24
    go_wp2
    refine wp_loop_rounds 6 ?_
    rw [rounds_succ]
    go_wp2_with (go_at_call 20; go_in)
    rw [rounds_succ]
    go_wp2_with (go_at_call 20; go_in)
    rw [rounds_succ]
    go_wp2_with (go_at_call 20; go_in)
    rw [rounds_succ]
    go_wp2_with (go_at_call 20; go_in)
    rw [rounds_succ]
    go_wp2_with (go_at_call 20; go_in)
    rw [rounds_succ]
    go_wp2_with (go_at_call 20; go_in)
    go_ret
    exact ⟨by kernel_rfl, rfl⟩

/-- The names' places in the order of bytes. -/
def rankM (k : Nat) : Nat := if k = 0 then 5 else if k = 1 then 2 else if k = 2 then 3 else if k = 3 then 4 else if k = 4 then 0 else 1

theorem less45 (w : World) : Calls Try.prog 25 #[.string ⟨#[]⟩, .string ⟨#[90]⟩] w fun e w' => e = .returned (.bool true) ∧ ∃ n : Nat, w' = w.drewN n := by
  go_enter Try.func25, Try.ntmps25
  go_wp2
  refine wp_loop_rounds 1 ?_
  rw [rounds_succ]
  go_wp2
  go_ret
  exact ⟨by kernel_rfl, 0, rfl⟩

theorem less41 (w : World) : Calls Try.prog 25 #[.string ⟨#[]⟩, .string ⟨#[95, 97]⟩] w fun e w' => e = .returned (.bool true) ∧ ∃ n : Nat, w' = w.drewN n := by
  go_enter Try.func25, Try.ntmps25
  go_wp2
  refine wp_loop_rounds 1 ?_
  rw [rounds_succ]
  go_wp2
  go_ret
  exact ⟨by kernel_rfl, 0, rfl⟩

theorem less42 (w : World) : Calls Try.prog 25 #[.string ⟨#[]⟩, .string ⟨#[97]⟩] w fun e w' => e = .returned (.bool true) ∧ ∃ n : Nat, w' = w.drewN n := by
  go_enter Try.func25, Try.ntmps25
  go_wp2
  refine wp_loop_rounds 1 ?_
  rw [rounds_succ]
  go_wp2
  go_ret
  exact ⟨by kernel_rfl, 0, rfl⟩

theorem less43 (w : World) : Calls Try.prog 25 #[.string ⟨#[]⟩, .string ⟨#[97, 98]⟩] w fun e w' => e = .returned (.bool true) ∧ ∃ n : Nat, w' = w.drewN n := by
  go_enter Try.func25, Try.ntmps25
  go_wp2
  refine wp_loop_rounds 1 ?_
  rw [rounds_succ]
  go_wp2
  go_ret
  exact ⟨by kernel_rfl, 0, rfl⟩

theorem less40 (w : World) : Calls Try.prog 25 #[.string ⟨#[]⟩, .string ⟨#[98]⟩] w fun e w' => e = .returned (.bool true) ∧ ∃ n : Nat, w' = w.drewN n := by
  go_enter Try.func25, Try.ntmps25
  go_wp2
  refine wp_loop_rounds 1 ?_
  rw [rounds_succ]
  go_wp2
  go_ret
  exact ⟨by kernel_rfl, 0, rfl⟩

theorem less51 (w : World) : Calls Try.prog 25 #[.string ⟨#[90]⟩, .string ⟨#[95, 97]⟩] w fun e w' => e = .returned (.bool true) ∧ ∃ n : Nat, w' = w.drewN n := by
  go_enter Try.func25, Try.ntmps25
  go_wp2
  refine wp_loop_rounds 1 ?_
  rw [rounds_succ]
  go_wp2
  go_region
  all_goals
    go_wp2
    go_region
    all_goals
      go_wp2
      go_ret
      exact ⟨by kernel_rfl, 2, rfl⟩

theorem less52 (w : World) : Calls Try.prog 25 #[.string ⟨#[90]⟩, .string ⟨#[97]⟩] w fun e w' => e = .returned (.bool true) ∧ ∃ n : Nat, w' = w.drewN n := by
  go_enter Try.func25, Try.ntmps25
  go_wp2
  refine wp_loop_rounds 1 ?_
  rw [rounds_succ]
  go_wp2
  go_region
  all_goals
    go_wp2
    go_region
    all_goals
      go_wp2
      go_ret
      exact ⟨by kernel_rfl, 2, rfl⟩

theorem less53 (w : World) : Calls Try.prog 25 #[.string ⟨#[90]⟩, .string ⟨#[97, 98]⟩] w fun e w' => e = .returned (.bool true) ∧ ∃ n : Nat, w' = w.drewN n := by
  go_enter Try.func25, Try.ntmps25
  go_wp2
  refine wp_loop_rounds 1 ?_
  rw [rounds_succ]
  go_wp2
  go_region
  all_goals
    go_wp2
    go_region
    all_goals
      go_wp2
      go_ret
      exact ⟨by kernel_rfl, 2, rfl⟩

theorem less50 (w : World) : Calls Try.prog 25 #[.string ⟨#[90]⟩, .string ⟨#[98]⟩] w fun e w' => e = .returned (.bool true) ∧ ∃ n : Nat, w' = w.drewN n := by
  go_enter Try.func25, Try.ntmps25
  go_wp2
  refine wp_loop_rounds 1 ?_
  rw [rounds_succ]
  go_wp2
  go_region
  all_goals
    go_wp2
    go_region
    all_goals
      go_wp2
      go_ret
      exact ⟨by kernel_rfl, 2, rfl⟩

theorem less12 (w : World) : Calls Try.prog 25 #[.string ⟨#[95, 97]⟩, .string ⟨#[97]⟩] w fun e w' => e = .returned (.bool true) ∧ ∃ n : Nat, w' = w.drewN n := by
  go_enter Try.func25, Try.ntmps25
  go_wp2
  refine wp_loop_rounds 1 ?_
  rw [rounds_succ]
  go_wp2
  go_region
  all_goals
    go_wp2
    go_region
    all_goals
      go_wp2
      go_ret
      exact ⟨by kernel_rfl, 2, rfl⟩

theorem less13 (w : World) : Calls Try.prog 25 #[.string ⟨#[95, 97]⟩, .string ⟨#[97, 98]⟩] w fun e w' => e = .returned (.bool true) ∧ ∃ n : Nat, w' = w.drewN n := by
  go_enter Try.func25, Try.ntmps25
  go_wp2
  refine wp_loop_rounds 1 ?_
  rw [rounds_succ]
  go_wp2
  go_region
  all_goals
    go_wp2
    go_region
    all_goals
      go_wp2
      go_ret
      exact ⟨by kernel_rfl, 2, rfl⟩

theorem less10 (w : World) : Calls Try.prog 25 #[.string ⟨#[95, 97]⟩, .string ⟨#[98]⟩] w fun e w' => e = .returned (.bool true) ∧ ∃ n : Nat, w' = w.drewN n := by
  go_enter Try.func25, Try.ntmps25
  go_wp2
  refine wp_loop_rounds 1 ?_
  rw [rounds_succ]
  go_wp2
  go_region
  all_goals
    go_wp2
    go_region
    all_goals
      go_wp2
      go_ret
      exact ⟨by kernel_rfl, 2, rfl⟩

theorem less23 (w : World) : Calls Try.prog 25 #[.string ⟨#[97]⟩, .string ⟨#[97, 98]⟩] w fun e w' => e = .returned (.bool true) ∧ ∃ n : Nat, w' = w.drewN n := by
  go_enter Try.func25, Try.ntmps25
  go_wp2
  refine wp_loop_rounds 2 ?_
  rw [rounds_succ]
  go_wp2
  go_region
  all_goals
    go_wp2
    rw [rounds_succ]
    go_wp2
    go_ret
    exact ⟨by kernel_rfl, 1, rfl⟩

theorem less20 (w : World) : Calls Try.prog 25 #[.string ⟨#[97]⟩, .string ⟨#[98]⟩] w fun e w' => e = .returned (.bool true) ∧ ∃ n : Nat, w' = w.drewN n := by
  go_enter Try.func25, Try.ntmps25
  go_wp2
  refine wp_loop_rounds 1 ?_
  rw [rounds_succ]
  go_wp2
  go_region
  all_goals
    go_wp2
    go_region
    all_goals
      go_wp2
      go_ret
      exact ⟨by kernel_rfl, 2, rfl⟩

theorem less30 (w : World) : Calls Try.prog 25 #[.string ⟨#[97, 98]⟩, .string ⟨#[98]⟩] w fun e w' => e = .returned (.bool true) ∧ ∃ n : Nat, w' = w.drewN n := by
  go_enter Try.func25, Try.ntmps25
  go_wp2
  refine wp_loop_rounds 1 ?_
  rw [rounds_succ]
  go_wp2
  go_region
  all_goals
    go_wp2
    go_region
    all_goals
      go_wp2
      go_ret
      exact ⟨by kernel_rfl, 2, rfl⟩

/-- zzLess, at two names of which the first comes first. -/
theorem less_any (k j : Nat) (w : World) (hk : k < 6) (hj : j < 6) (h : rankM k < rankM j) :
    Calls Try.prog 25 #[.string (nmM k), .string (nmM j)] w fun e w' => e = .returned (.bool true) ∧ ∃ n : Nat, w' = w.drewN n := by
  have h1 : k = 0 ∨ k = 1 ∨ k = 2 ∨ k = 3 ∨ k = 4 ∨ k = 5 := by omega
  have h2 : j = 0 ∨ j = 1 ∨ j = 2 ∨ j = 3 ∨ j = 4 ∨ j = 5 := by omega
  rcases h1 with rfl | rfl | rfl | rfl | rfl | rfl
  · rcases h2 with rfl | rfl | rfl | rfl | rfl | rfl
    · exact absurd h (by decide)
    · exact absurd h (by decide)
    · exact absurd h (by decide)
    · exact absurd h (by decide)
    · exact absurd h (by decide)
    · exact absurd h (by decide)
  · rcases h2 with rfl | rfl | rfl | rfl | rfl | rfl
    · exact less10 w
    · exact absurd h (by decide)
    · exact less12 w
    · exact less13 w
    · exact absurd h (by decide)
    · exact absurd h (by decide)
  · rcases h2 with rfl | rfl | rfl | rfl | rfl | rfl
    · exact less20 w
    · exact absurd h (by decide)
    · exact absurd h (by decide)
    · exact less23 w
    · exact absurd h (by decide)
    · exact absurd h (by decide)
  · rcases h2 with rfl | rfl | rfl | rfl | rfl | rfl
    · exact less30 w
    · exact absurd h (by decide)
    · exact absurd h (by decide)
    · exact absurd h (by decide)
    · exact absurd h (by decide)
    · exact absurd h (by decide)
  · rcases h2 with rfl | rfl | rfl | rfl | rfl | rfl
    · exact less40 w
    · exact less41 w
    · exact less42 w
    · exact less43 w
    · exact absurd h (by decide)
    · exact less45 w
  · rcases h2 with rfl | rfl | rfl | rfl | rfl | rfl
    · exact less50 w
    · exact less51 w
    · exact less52 w
    · exact less53 w
    · exact absurd h (by decide)
    · exact absurd h (by decide)

theorem size56 : (Try.prog.info? 56).map (·.size) = some 1 := by kernel_rfl
theorem size72 : ((Try.prog.info? 72).map (·.size)).isSome = true := by kernel_rfl
theorem size76 : ((Try.prog.info? 76).map (·.size)).isSome = true := by kernel_rfl

theorem same54 (a : Addr) (w : World) : (binOp .eql 54 (.pointer (some a)) (.pointer (some a))).run Try.prog w = .ok (.bool true) w := by
  obtain ⟨j, hj, _⟩ := Option.map_eq_some_iff.1 size56
  exact run_eql_ptr_same w a Try.underlying54 hj

theorem other54 {a b : Nat} {ca cb : Array Value} {ta tb : TypeId} (w : World) (hne : a ≠ b) (ha : w.heap[a]? = some (.cells ca ta (0, 0))) (hb : w.heap[b]? = some (.cells cb tb (0, 0))) : (binOp .eql 54 (.pointer (some ⟨a, 0, none⟩)) (.pointer (some ⟨b, 0, none⟩))).run Try.prog w = .ok (.bool false) w := by
  obtain ⟨j, hj, hs⟩ := Option.map_eq_some_iff.1 size56
  exact run_eql_ptr_other (a := ⟨a, 0, none⟩) (b := ⟨b, 0, none⟩) w Try.underlying54 hj (by rw [hs]; decide) (by intro h; injection h; omega) ha hb

theorem neq_same {P : Program} {tp te : TypeId} {j : TypeInfo} (p : Option Addr) (w : World) (hp : P.underlying tp = some (.pointer te)) (hte : P.info? te = some j) :
    (binOp .neq tp (.pointer p) (.pointer p)).run P w = .ok (.bool false) w := by
  have h : ∀ d : Nat, (Op.equalIn (d + 1) tp (.pointer p) (.pointer p)).run P w = .ok true w := fun d => by
    cases p <;> simp [Op.equalIn, run_underlying hp, sizeOf, typeInfo, hte, run_sameAddr_same]
  simp only [binOp]
  simp [Op.equal, Op.maxDepth, h 9999]

theorem neq66 (p : Option Addr) (w : World) : (binOp .neq 66 (.pointer p) (.pointer p)).run Try.prog w = .ok (.bool false) w := by
  cases hj : Try.prog.info? 72 with
  | none => have := size72; rw [hj] at this; cases this
  | some j => exact neq_same p w Try.underlying66 hj

theorem neq68 (p : Option Addr) (w : World) : (binOp .neq 68 (.pointer p) (.pointer p)).run Try.prog w = .ok (.bool false) w := by
  cases hj : Try.prog.info? 76 with
  | none => have := size76; rw [hj] at this; cases this
  | some j => exact neq_same p w Try.underlying68 hj

/-- Two libraries' blocks. -/
def LibIs (w : World) (f : Nat) : Prop := ∃ cs, w.heap[f]? = some (.cells cs 56 (0, 0))

theorem LibIs.block {w w' : World} {f : Nat} (h : LibIs w f) (hb : w'.heap[f]? = w.heap[f]?) : LibIs w' f := let ⟨cs, h1⟩ := h; ⟨cs, hb.trans h1⟩

set_option maxHeartbeats 1000000 in
/-- Sees: every name but the private one; that one from the class's own library alone. -/
theorem sees_any (k f l cb : Nat) (w : World) (hk : k < 6) (hf : LibIs w f) (hl : LibIs w l) (c1 : w.cell? ⟨cb, 1, none⟩ = some (.pointer (some ⟨l, 0, none⟩))) :
    Calls Try.prog 32 #[.pointer (some ⟨f, 0, none⟩), .pointer (some ⟨cb, 0, none⟩), .string (nmM k)] w fun e w' => e = .returned (.bool (decide (k ≠ 1 ∨ f = l))) ∧ w' = w := by
  by_cases h1 : k = 1
  · have hp : ∀ w : World, Calls Try.prog 37 #[.string (nmM k)] w fun e w' => e = .returned (.bool true) ∧ w' = w := fun w => by
      have := isPrivate_any k w hk
      rw [decide_eq_true h1] at this
      exact this
    have H1 : Hid (k = 1) := h1
    clear h1
    by_cases h2 : f = l
    · subst h2
      have q := same54 ⟨f, 0, none⟩
      clear hf hl
      go_enter Try.func32, Try.ntmps32
      go_wp2_with (go_at_call 37; refine (hp _).mono ?_; rintro e w' ⟨rfl, rfl⟩)
      go_ret
      exact ⟨by simp, rfl⟩
    · obtain ⟨ca, ha⟩ := hf
      obtain ⟨cc, hc⟩ := hl
      have q := other54 w (fun e => h2 e.symm) hc ha
      have H2 : Hid (¬ f = l) := h2
      clear ha hc h2
      go_enter Try.func32, Try.ntmps32
      go_wp2_with (go_at_call 37; refine (hp _).mono ?_; rintro e w' ⟨rfl, rfl⟩)
      go_ret
      exact ⟨by have h1 := H1.out; have h2 := H2.out; simp [h1, h2], rfl⟩
  · clear hf hl
    go_enter Try.func32, Try.ntmps32
    go_wp2_with (go_at_call 37; refine (isPrivate_any k _ hk).mono ?_; rw [decide_eq_false h1]; rintro e w' ⟨rfl, rfl⟩)
    go_ret
    exact ⟨by simp [h1], rfl⟩

section
variable {n b cb f l k : Nat} {m : List UInt8 → Option Value} (w : World)

/-- Member. -/
theorem find26_any (hk : k < 6) (hf : LibIs w f) (hL : LibIs w l) (c1 : w.cell? ⟨cb, 1, none⟩ = some (.pointer (some ⟨l, 0, none⟩))) (c2 : w.cell? ⟨cb, 8, none⟩ = some (.map (some b))) (hm : MapIs w b n m) :
    Calls Try.prog 26 #[.pointer (some ⟨cb, 0, none⟩), .string (nmM k), .pointer (some ⟨f, 0, none⟩)] w fun e w' => e = .returned (if k ≠ 1 ∨ f = l then (m (nmM k).data.toList).getD (.pointer none) else .pointer none) ∧ w' = w := by
  have hl := hm.look1 Try.underlying62 (zero66 w) (nmM_size k)
  have hsee := sees_any k f l cb w hk hf hL c1
  clear hm hf hL
  by_cases h : k ≠ 1 ∨ f = l
  · rw [decide_eq_true h] at hsee
    rw [if_pos h]
    clear h
    go_enter Try.func26, Try.ntmps26
    go_wp2_with (go_at_call 32; refine hsee.mono ?_; rintro e w' ⟨rfl, rfl⟩)
    go_ret
    exact ⟨rfl, rfl⟩
  · rw [decide_eq_false h] at hsee
    rw [if_neg h]
    clear h
    go_enter Try.func26, Try.ntmps26
    go_wp2_with (go_at_call 32; refine hsee.mono ?_; rintro e w' ⟨rfl, rfl⟩)
    go_ret
    exact ⟨rfl, rfl⟩

/-- Constructor. -/
theorem find27_any (hk : k < 6) (hf : LibIs w f) (hL : LibIs w l) (c1 : w.cell? ⟨cb, 1, none⟩ = some (.pointer (some ⟨l, 0, none⟩))) (c2 : w.cell? ⟨cb, 9, none⟩ = some (.map (some b))) (hm : MapIs w b n m) :
    Calls Try.prog 27 #[.pointer (some ⟨cb, 0, none⟩), .string (nmM k), .pointer (some ⟨f, 0, none⟩)] w fun e w' => e = .returned (if k ≠ 1 ∨ f = l then (m (nmM k).data.toList).getD (.pointer none) else .pointer none) ∧ w' = w := by
  have hl := hm.look1 Try.underlying63 (zero68 w) (nmM_size k)
  have hsee := sees_any k f l cb w hk hf hL c1
  clear hm hf hL
  by_cases h : k ≠ 1 ∨ f = l
  · rw [decide_eq_true h] at hsee
    rw [if_pos h]
    clear h
    go_enter Try.func27, Try.ntmps27
    go_wp2_with (go_at_call 32; refine hsee.mono ?_; rintro e w' ⟨rfl, rfl⟩)
    go_ret
    exact ⟨rfl, rfl⟩
  · rw [decide_eq_false h] at hsee
    rw [if_neg h]
    clear h
    go_enter Try.func27, Try.ntmps27
    go_wp2_with (go_at_call 32; refine hsee.mono ?_; rintro e w' ⟨rfl, rfl⟩)
    go_ret
    exact ⟨rfl, rfl⟩

end
end Go.Proofs.Qxb6003857a
