/-
  THE LAW ON Import: WHAT HOLDS OF MEMORY AT EACH ROUND.
-/
import Derived.Test.Qxb6003857aImportMatch
import Derived.Test.Qxb6003857aClone
namespace Go.Proofs.Qxb6003857a
open Go.RowKit Go.Maps Go.WideMaps

/-- While the pool is filled: j variables are laid. N = w1.heap.size: the map's block. -/
structure Fill (w1 wr : World) (j : Nat) : Prop where
  below : Below w1.heap.size w1 wr
  size : wr.heap.size = w1.heap.size + 3 + j
  sc : wr.rowIs (w1.heap.size + 1) 86 2 (fun i => if i = 0 then .pointer none else .map (some w1.heap.size))
  pa : wr.rowIs (w1.heap.size + 1 + 1) 40 4 (fun i => if i < j then .pointer (some ⟨w1.heap.size + 3 + i, 0, none⟩) else .pointer none)
  nm : MapIs wr w1.heap.size 0 (fun _ => none)
  pool : ∀ i, i < j → ∃ cs, wr.heap[w1.heap.size + 3 + i]? = some (.cells cs 34 (0, 0))

theorem Fill.start (w1 : World) : Fill w1 (((w1.alloc (.map #[] 0)).alloc (.cells #[.pointer none, .map (some w1.heap.size)] 86)).alloc (.cells #[.pointer none, .pointer none, .pointer none, .pointer none] 40)) 0 where
  below := (((Below.refl _ _).alloc (Nat.le_refl _) _).alloc (by simp only [World.size_alloc]; omega) _).alloc (by simp only [World.size_alloc]; omega) _
  size := by simp
  sc := by
    have h1 := World.rowIs_alloc (w1.alloc (.map #[] 0)) #[.pointer none, .map (some w1.heap.size)] 86 (fun i => if i = 0 then .pointer none else .map (some w1.heap.size)) (fun i hi => by
      have : i = 0 ∨ i = 1 := by simp at hi; omega
      rcases this with rfl | rfl <;> rfl)
    simp only [World.size_alloc] at h1
    exact h1.alloc _
  pa := by
    have h1 := World.rowIs_alloc ((w1.alloc (.map #[] 0)).alloc (.cells #[.pointer none, .map (some w1.heap.size)] 86)) #[.pointer none, .pointer none, .pointer none, .pointer none] 40 (fun i => if i < 0 then .pointer (some ⟨w1.heap.size + 3 + i, 0, none⟩) else .pointer none) (fun i hi => by
      have : i = 0 ∨ i = 1 ∨ i = 2 ∨ i = 3 := by simp at hi; omega
      rcases this with rfl | rfl | rfl | rfl <;> rfl)
    simp only [World.size_alloc] at h1
    exact h1
  nm := ((MapIs.made w1).alloc _).alloc _
  pool := fun i hi => by omega

theorem Fill.step {w1 wr : World} {j : Nat} (h : Fill w1 wr j) (cs : Array Value) : Fill w1 ((wr.alloc (.cells cs 34)).setCell ⟨w1.heap.size + 1 + 1, j, none⟩ (.pointer (some ⟨wr.heap.size, 0, none⟩))) (j + 1) where
  below := (h.below.alloc (by have := h.size; omega) _).setCell (by show _ ≤ w1.heap.size + 1 + 1; omega) _
  size := by have := h.size; simp; omega
  sc := (h.sc.alloc _).setOther (by simp) _
  pa := by
    refine ((h.pa.alloc _).set j (.pointer (some ⟨wr.heap.size, 0, none⟩))).congr fun i _ => ?_
    by_cases e : i = j
    · subst e
      rw [if_pos rfl, if_pos (by omega), h.size]
    · rw [if_neg e]
      have : (i < j + 1) = (i < j) := by simp; omega
      simp only [this]
  nm := (h.nm.alloc _).setCell (by show w1.heap.size ≠ w1.heap.size + 1 + 1; omega) _
  pool := fun i hi => by
    have hs := h.size
    by_cases e : i = j
    · refine ⟨cs, ?_⟩
      subst e
      rw [Below.heap_setCell _ _ _ _ (by simp only; omega), ← hs]
      exact (MapKept.heap_alloc wr _).1
    · obtain ⟨c, hc⟩ := h.pool i (by omega)
      refine ⟨c, ?_⟩
      rw [Below.heap_setCell _ _ _ _ (by simp only; omega), Below.heap_alloc _ _ _ (by omega)]
      exact hc

/-- In the great loop: Ms: what 'seen' says; Ls: what the names stand for. -/
structure Main (w1 wr : World) (n : Nat) (Ms Ls : Nat → List Nat) : Prop where
  below : Below w1.heap.size w1 wr
  size : w1.heap.size + 9 ≤ wr.heap.size
  sc : wr.rowIs (w1.heap.size + 1) 86 2 (fun i => if i = 0 then .pointer none else .map (some w1.heap.size))
  pa : wr.rowIs (w1.heap.size + 1 + 1) 40 4 (fun i => .pointer (some ⟨w1.heap.size + 3 + i, 0, none⟩))
  pool : PoolIs wr (w1.heap.size + 3)
  seen : SeenIs wr (w1.heap.size + 7) (w1.heap.size + 7 + 1) Ms
  names : Names wr w1.heap.size n (w1.heap.size + 3) Ls

theorem Main.keep {w1 wr w2 : World} {n : Nat} {Ms Ls : Nat → List Nat} (h : Main w1 wr n Ms Ls) (hb : Below wr.heap.size wr w2) : Main w1 w2 n Ms Ls := by
  have hs := h.size
  exact {
    below := h.below.trans (hb.mono (by omega))
    size := Nat.le_trans h.size hb.size
    sc := h.sc.of_block (hb.block _ (by omega))
    pa := h.pa.of_block (hb.block _ (by omega))
    pool := h.pool.block (fun j hj => hb.block _ (by omega))
    seen := h.seen.block (hb.block _ (by omega)) (hb.block _ (by omega))
    names := h.names.kept (hb.block _ (by omega)) (kept_below hb) }

/-- 'seen' and 'count' alone have turned. -/
theorem Main.but {w1 wr w2 : World} {n : Nat} {Ms Ms' Ls : Nat → List Nat} (h : Main w1 wr n Ms Ls) (hb : But wr w2 (w1.heap.size + 7) (w1.heap.size + 7 + 1)) (hs' : SeenIs w2 (w1.heap.size + 7) (w1.heap.size + 7 + 1) Ms') : Main w1 w2 n Ms' Ls := by
  have hs := h.size
  obtain ⟨f, g, ⟨cf, hf, _⟩, ⟨cg, hg, _⟩, _⟩ := h.seen
  exact {
    below := h.below.trans ⟨hb.os, hb.tape, hb.output, by rw [hb.size]; exact Nat.le_refl _, fun k hk => hb.block k (by omega) (by omega)⟩
    size := by rw [hb.size]; exact h.size
    sc := h.sc.of_block (hb.block _ (by omega) (by omega))
    pa := h.pa.of_block (hb.block _ (by omega) (by omega))
    pool := h.pool.block (fun j hj => hb.block _ (by omega) (by omega))
    seen := hs'
    names := h.names.kept (hb.block _ (by omega) (by omega)) (fun k cs t hk ht => hb.block k
      (fun e => by rw [e, hf] at hk; cases hk; rcases ht with h | h <;> cases h)
      (fun e => by rw [e, hg] at hk; cases hk; rcases ht with h | h <;> cases h)) }

/-- The map alone has turned. -/
theorem Main.name {w1 wr w2 : World} {n n' : Nat} {Ms Ls Ls' : Nat → List Nat} (h : Main w1 wr n Ms Ls) (hg : wr.grownBy w2 (some w1.heap.size)) (hn : Names w2 w1.heap.size n' (w1.heap.size + 3) Ls') : Main w1 w2 n' Ms Ls' := by
  have hs := h.size
  have hb : ∀ k, k < wr.heap.size → k ≠ w1.heap.size → w2.heap[k]? = wr.heap[k]? := fun k h1 h2 => hg.block k h1 (by simpa using h2)
  exact {
    below := h.below.trans ⟨hg.os, hg.tape, hg.output, hg.size, fun k hk => hb k (by omega) (by omega)⟩
    size := Nat.le_trans h.size hg.size
    sc := h.sc.of_block (hb _ (by omega) (by omega))
    pa := h.pa.of_block (hb _ (by omega) (by omega))
    pool := h.pool.block (fun j hj => hb _ (by omega) (by omega))
    seen := h.seen.block (hb _ (by omega) (by omega)) (hb _ (by omega) (by omega))
    names := hn }

/-- From the filled pool, with the two new arrays. -/
theorem Fill.main {w1 wr : World} (h : Fill w1 wr 4) (z12 : Array Value) (z3 : Array Value) (h12 : z12 = #[.int .i64 0, .int .i64 0, .int .i64 0, .int .i64 0, .int .i64 0, .int .i64 0, .int .i64 0, .int .i64 0, .int .i64 0, .int .i64 0, .int .i64 0, .int .i64 0]) (h3 : z3 = #[.int .i64 0, .int .i64 0, .int .i64 0]) :
    Main w1 ((wr.alloc (.cells z12 42)).alloc (.cells z3 43)) 0 (fun _ => []) (fun _ => []) := by
  have hs := h.size
  have e7 : wr.heap.size = w1.heap.size + 7 := by omega
  exact {
    below := (h.below.alloc (by omega) _).alloc (by simp; omega) _
    size := by simp; omega
    sc := (h.sc.alloc _).alloc _
    pa := ((h.pa.alloc _).alloc _).congr (fun i hi => by rw [if_pos (by omega)])
    pool := fun j hj => by
      obtain ⟨c, hc⟩ := h.pool j hj
      refine ⟨c, ?_⟩
      rw [Below.heap_alloc _ _ _ (by simp; omega), Below.heap_alloc _ _ _ (by omega)]
      exact hc
    seen := by
      have a1 := World.rowIs_alloc wr z12 42 (fun _ => .int .i64 0) (fun i hi => by
        subst h12
        have : i = 0 ∨ i = 1 ∨ i = 2 ∨ i = 3 ∨ i = 4 ∨ i = 5 ∨ i = 6 ∨ i = 7 ∨ i = 8 ∨ i = 9 ∨ i = 10 ∨ i = 11 := by simp at hi; omega
        rcases this with rfl | rfl | rfl | rfl | rfl | rfl | rfl | rfl | rfl | rfl | rfl | rfl <;> rfl)
      have a2 := World.rowIs_alloc (wr.alloc (.cells z12 42)) z3 43 (fun _ => .int .i64 0) (fun i hi => by
        subst h3
        have : i = 0 ∨ i = 1 ∨ i = 2 := by simp at hi; omega
        rcases this with rfl | rfl | rfl <;> rfl)
      simp only [World.size_alloc, e7] at a1 a2
      subst h12 h3
      exact ⟨_, _, a1.alloc _, a2, fun k _ => ⟨rfl, fun i hi => by simp at hi⟩⟩
    names := ⟨fun _ => none, (h.nm.alloc _).alloc _, fun i _ => Or.inl ⟨rfl, rfl⟩⟩ }

theorem Main.mono {w1 wr : World} {n n' : Nat} {Ms Ls : Nat → List Nat} (h : Main w1 wr n Ms Ls) (hn : n ≤ n') : Main w1 wr n' Ms Ls :=
  { h with names := h.names.mono hn }

theorem Main.drew {w1 wr : World} {n : Nat} {Ms Ls : Nat → List Nat} (h : Main w1 wr n Ms Ls) : Main w1 wr.drew n Ms Ls := h.keep (Below.refl _ _).drew

/-- The last test of a round: what Lookup gives, and what zzBindingMatches says of it. -/
theorem Main.test {w1 wr : World} {n : Nat} {Ls : Nat → List Nat} (h : Main w1 wr n Ls Ls) (hW : ∀ t, t < 3 → Wf (Ls t)) (t : Nat) (ht : t < 3) :
    ∃ x : Value, (Calls Try.prog 12 #[.pointer (some ⟨w1.heap.size + 1, 0, none⟩), .string (nmI t)] wr fun e w' => e = .returned x ∧ w' = wr) ∧
      wr.cell? ⟨w1.heap.size + 7 + 1, t, none⟩ = some (.int .i64 (Ls t).length) ∧
      Calls Try.prog 17 #[x, .string (nmI t), .pointer (some ⟨w1.heap.size + 7, t * 4, none⟩), .int .i64 (Ls t).length, .pointer (some ⟨w1.heap.size + 1 + 1, 0, none⟩)] wr fun e w' => e = .returned (.bool true) ∧ Below wr.heap.size wr w' := by
  obtain ⟨m, hm, hH⟩ := h.names
  obtain ⟨f, g, hf, hg, hS⟩ := h.seen
  have hl := (hW t ht).length
  have c0 := h.sc.cell (i := 0) (by omega)
  have c1 := h.sc.cell (i := 1) (by omega)
  refine ⟨_, lookup_root (nmI t) wr (nmI_size t) c0 c1 hm, ?_, match_any wr t (Ls t) ht (hW t ht) (hH t ht) h.pool (fun i hi => ?_) h.pa⟩
  · rw [hg.cell ht, (hS t ht).1]
  · rw [hf.cell (by omega), Nat.mul_comm t 4, (hS t ht).2 i hi]

/-- The model's step. -/
theorem Main.model {w1 wr : World} {n : Nat} {Ms Ls : Nat → List Nat} (h : Main w1 wr n Ms Ls) (hW : ∀ t, t < 3 → Wf (Ms t)) (t j : Nat) (ht : t < 3) (hj : j < 4) :
    Calls Try.prog 15 #[.pointer (some ⟨w1.heap.size + 7, t * 4, none⟩), .pointer (some ⟨w1.heap.size + 7 + 1, t, none⟩), .int .i64 j] wr fun e w' => e = .returned (.bool (!decide (j ∈ Ms t))) ∧ Main w1 w' n (upds Ms t [j]) Ls ∧ But wr w' (w1.heap.size + 7) (w1.heap.size + 7 + 1) := by
  rw [Nat.mul_comm t 4]
  exact (modelAdd_any t j wr (by omega) ht hj h.seen hW).mono fun e w' ⟨he, h1, h2⟩ => ⟨he, h.but h2 h1, h2⟩

/-- Import of one of the pool. -/
theorem Main.one {w1 wr : World} {n : Nat} {Ms Ls : Nat → List Nat} (h : Main w1 wr n Ms Ls) (hW : ∀ t, t < 3 → Wf (Ls t)) (hn : n < 1000) (t j : Nat) (ht : t < 3) (hj : j < 4) :
    Calls Try.prog 16 #[.pointer (some ⟨w1.heap.size + 1, 0, none⟩), .string (nmI t), .iface 27 (.pointer (some ⟨w1.heap.size + 3 + j, 0, none⟩))] wr fun e w' => e = .returned (.bool (!decide (j ∈ Ls t))) ∧ Main w1 w' (n + 1) Ms (upds Ls t [j]) :=
  (import_one t j wr ht hj (by unfold maxLen; omega) (h.sc.cell (i := 1) (by omega)) h.pool h.names (hW t ht)).mono fun e w' ⟨he, h1, h2⟩ => ⟨he, h.name h2 h1⟩

/-- Import of an Ambiguous. -/
theorem Main.amb {w1 wr : World} {n q : Nat} {Ms Ls : Nat → List Nat} {M : List Nat} (h : Main w1 wr n Ms Ls) (hW : ∀ t, t < 3 → Wf (Ls t)) (hn : n < 1000) (t : Nat) (ht : t < 3) (hM : ∀ x ∈ M, x < 4) (hM4 : M.length ≤ 4) (hA : Amb wr q (w1.heap.size + 3) M) :
    Calls Try.prog 16 #[.pointer (some ⟨w1.heap.size + 1, 0, none⟩), .string (nmI t), .iface 48 (.pointer (some ⟨q, 0, none⟩))] wr fun e w' => e = .returned (.bool (chg (Ls t) M)) ∧ Main w1 w' (n + M.length) Ms (upds Ls t M) :=
  (import_amb t wr ht hn (h.sc.cell (i := 1) (by omega)) h.pool h.names (hW t ht) hM hM4 hA).mono fun e w' ⟨he, h1, h2⟩ => ⟨he, h.name h2 h1⟩

theorem wf_upds {Ls : Nat → List Nat} (hW : ∀ t, t < 3 → Wf (Ls t)) (k : Nat) (hk : k < 3) (M : List Nat) (hM : ∀ x ∈ M, x < 4) : ∀ t, t < 3 → Wf (upds Ls k M t) := by
  intro t ht
  unfold upds
  split
  · exact (hW k hk).adds M hM
  · exact hW t ht

/-- While an Ambiguous is built in block q, behind the world wS: below q nothing has turned but 'seen' and 'count'. -/
structure Built (wS wr : World) (sb cb p0 : Nat) (M : List Nat) : Prop where
  os : wr.os = wS.os
  tape : wr.tape = wS.tape
  output : wr.output = wS.output
  size : wS.heap.size < wr.heap.size
  block : ∀ k, k < wS.heap.size → k ≠ sb → k ≠ cb → wr.heap[k]? = wS.heap[k]?
  amb : ∃ s v, wr.heap[wS.heap.size]? = some (.cells #[.string s, v] 51 (0, 0)) ∧ wr.ownsRow (wS.heap.size + 1) 37 1 v M.length (M.map (pv p0))

theorem Built.start (wS : World) (sb cb p0 : Nat) (s : ByteArray) : Built wS (wS.alloc (.cells #[.string s, .slice none 0 0] 51)) sb cb p0 [] where
  os := rfl
  tape := rfl
  output := rfl
  size := by simp
  block := fun k hk _ _ => Below.heap_alloc _ _ _ hk
  amb := ⟨s, _, (MapKept.heap_alloc wS _).1, World.ownsRow_nil _ _ _ _⟩

theorem Built.drew {wS wr : World} {sb cb p0 : Nat} {M : List Nat} (h : Built wS wr sb cb p0 M) : Built wS wr.drew sb cb p0 M := ⟨h.os, h.tape, h.output, h.size, h.block, h.amb⟩

theorem Built.cell {wS wr : World} {sb cb p0 : Nat} {M : List Nat} (h : Built wS wr sb cb p0 M) {a : Addr} {v : Value} (hc : wS.cell? a = some v) (h1 : a.block ≠ sb) (h2 : a.block ≠ cb) : wr.cell? a = some v :=
  (World.cell?_of_block (w := wS) (h.block _ (World.block_lt_of_cell? _ _ hc) h1 h2)).trans hc

/-- The model's step. -/
theorem Built.but {wS wr w2 : World} {sb cb p0 : Nat} {M : List Nat} (h : Built wS wr sb cb p0 M) (hb : But wr w2 sb cb) (hs : sb < wS.heap.size) (hc : cb < wS.heap.size) : Built wS w2 sb cb p0 M where
  os := hb.os.trans h.os
  tape := hb.tape.trans h.tape
  output := hb.output.trans h.output
  size := by rw [hb.size]; exact h.size
  block := fun k hk h1 h2 => (hb.block k h1 h2).trans (h.block k hk h1 h2)
  amb := by
    obtain ⟨s, v, hq, hlen, h1 | ⟨g, cap, cur, hv, hbase, hg, r⟩⟩ := h.amb
    · exact ⟨s, v, (hb.block _ (by omega) (by omega)).trans hq, hlen, Or.inl h1⟩
    · exact ⟨s, v, (hb.block _ (by omega) (by omega)).trans hq, hlen, Or.inr ⟨g, cap, cur, hv, hbase, (hb.block _ (by omega) (by omega)).trans hg, r⟩⟩

theorem built_cell {wr : World} {q : Nat} {s : ByteArray} {v : Value} (hq : wr.heap[q]? = some (.cells #[.string s, v] 51 (0, 0))) : wr.drew.cell? ⟨q, 1, none⟩ = some v ∧ wr.drew.frozen? ⟨q, 1, none⟩ = false := by
  constructor
  · show wr.cell? ⟨q, 1, none⟩ = some v
    simp [World.cell?, hq]
  · show wr.frozen? ⟨q, 1, none⟩ = false
    simp [World.frozen?, hq]

theorem built_after {wr w2 : World} {q : Nat} {s : ByteArray} {v : Value} {O : Obj} (hq : wr.heap[q]? = some (.cells #[.string s, v] 51 (0, 0))) (hv : some q ≠ v.ownBlock) (hg : ((wr.alloc O).drew).grownBy w2 v.ownBlock) : w2.cell? ⟨q, 1, none⟩ = some v ∧ w2.frozen? ⟨q, 1, none⟩ = false := by
  have hlt : q < wr.heap.size := (Array.getElem?_eq_some_iff.1 hq).1
  have e : w2.heap[q]? = some (.cells #[.string s, v] 51 (0, 0)) := (hg.block q (by simp; omega) hv).trans ((Below.heap_alloc _ _ _ hlt).trans hq)
  exact ⟨by simp [World.cell?, e], by simp [World.frozen?, e]⟩

/-- The append's step: w2 the world behind the append, then the store into the struct. -/
theorem Built.append {wS wr w2 : World} {sb cb p0 g cap j : Nat} {M : List Nat} {s : ByteArray} {v : Value} {O : Obj} (h : Built wS wr sb cb p0 M) (hq : wr.heap[wS.heap.size]? = some (.cells #[.string s, v] 51 (0, 0))) (hv : ∀ b, v.ownBlock = some b → wS.heap.size + 1 ≤ b)
    (hown : w2.ownsRow (wS.heap.size + 1) 37 1 (.slice (some ⟨g, 0, none⟩) (M.length + 1) cap) (M.length + 1) (M.map (pv p0) ++ [pv p0 j])) (hg : ((wr.alloc O).drew).grownBy w2 v.ownBlock) :
    Built wS (w2.setCell ⟨wS.heap.size, 1, none⟩ (.slice (some ⟨g, 0, none⟩) (M.length + 1) cap)) sb cb p0 (M ++ [j]) := by
  have hsz := h.size
  have hgs := hg.size
  simp at hgs
  have hne : ∀ k, k ≤ wS.heap.size → some k ≠ v.ownBlock := fun k hk e => by have := hv k e.symm; omega
  have hblk : ∀ k, k ≤ wS.heap.size → w2.heap[k]? = wr.heap[k]? := fun k hk => (hg.block k (by simp; omega) (hne k hk)).trans (Below.heap_alloc _ _ _ (by omega))
  refine ⟨hg.os.trans h.os, hg.tape.trans h.tape, hg.output.trans h.output, by simp; omega, fun k hk h1 h2 => ?_, s, .slice (some ⟨g, 0, none⟩) (M.length + 1) cap, ?_, ?_⟩
  · rw [Below.heap_setCell _ _ _ _ (by simp only; omega), hblk k (by omega)]
    exact h.block k hk h1 h2
  · have e := (hblk wS.heap.size (Nat.le_refl _)).trans hq
    simp [World.setCell, Array.getElem?_modify, e]
  · obtain ⟨h1, h2 | ⟨g', cap', cur, hv', hbase, hgg, r1, r2, r3, r4⟩⟩ := hown
    · exact absurd h2.1 (by simp)
    · cases hv'
      refine ⟨by simp, Or.inr ⟨g, cap, cur, by simp, hbase, ?_, by simpa using r1, r2, r3, by simpa using r4⟩⟩
      rw [Below.heap_setCell _ _ _ _ (by simp only; omega)]
      exact hgg

/-- At the end. -/
theorem Built.main {w1 wS wr : World} {n : Nat} {M : List Nat} {Ms Ls Ms' : Nat → List Nat} (h : Built wS wr (w1.heap.size + 7) (w1.heap.size + 7 + 1) (w1.heap.size + 3) M) (hM : Main w1 wS n Ms Ls) (hs : SeenIs wr (w1.heap.size + 7) (w1.heap.size + 7 + 1) Ms') : Main w1 wr n Ms' Ls := by
  have hsz := hM.size
  have hsz' := h.size
  obtain ⟨f, g, ⟨cf, hf, _⟩, ⟨cg, hg, _⟩, _⟩ := hM.seen
  exact {
    below := hM.below.trans ⟨h.os, h.tape, h.output, by omega, fun k hk => h.block k (by omega) (by omega) (by omega)⟩
    size := by omega
    sc := hM.sc.of_block (h.block _ (by omega) (by omega) (by omega))
    pa := hM.pa.of_block (h.block _ (by omega) (by omega) (by omega))
    pool := hM.pool.block (fun j hj => h.block _ (by omega) (by omega) (by omega))
    seen := hs
    names := hM.names.kept (h.block _ (by omega) (by omega) (by omega)) (fun k cs t hk ht => h.block k (Array.getElem?_eq_some_iff.1 hk).1
      (fun e => by rw [e, hf] at hk; cases hk; rcases ht with h | h <;> cases h)
      (fun e => by rw [e, hg] at hk; cases hk; rcases ht with h | h <;> cases h)) }

theorem Built.isAmb {wS wr : World} {sb cb p0 : Nat} {M : List Nat} (h : Built wS wr sb cb p0 M) : Amb wr wS.heap.size p0 M := by
  obtain ⟨s, v, hq, hlen, h1 | ⟨g, cap, cur, hv, _, r⟩⟩ := h.amb
  · exact ⟨s, v, hq, hlen, Or.inl h1⟩
  · exact ⟨s, v, hq, hlen, Or.inr ⟨g, cap, cur, hv, Nat.zero_le _, r⟩⟩

end Go.Proofs.Qxb6003857a
