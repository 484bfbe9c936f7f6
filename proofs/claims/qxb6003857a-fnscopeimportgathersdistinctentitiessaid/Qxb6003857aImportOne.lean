/-
  (*Scope).Import of one entity of the pool.
-/
import Derived.Test.Qxb6003857aImportLeaf
import Derived.Deep.RegionHeldLaw
import Derived.Deep.RegionLawGrows
namespace Go.Proofs.Qxb6003857a
open Go.RowKit Go.Maps Go.WideMaps

/-- Block q is an Ambiguous over the pool's variables L. -/
def Amb (w : World) (q p0 : Nat) (L : List Nat) : Prop :=
  ∃ s v, w.heap[q]? = some (.cells #[.string s, v] 51 (0, 0)) ∧ w.ownsRow 0 37 1 v L.length (L.map (pv p0))

theorem assert27 (v : Value) (w : World) : (Instr.typeAssert (.iface 27 v) 37 48 true).run Try.prog w = .ok (.tuple #[.pointer none, .bool false]) w := by kernel_rfl
theorem assert48 (v : Value) (w : World) : (Instr.typeAssert (.iface 48 v) 37 48 true).run Try.prog w = .ok (.tuple #[v, .bool true]) w := by kernel_rfl
theorem eql48_27 (u v : Value) (w : World) : (binOp .eql 37 (.iface 48 u) (.iface 27 v)).run Try.prog w = .ok (.bool false) w := run_eql_iface_types 48 27 u v Try.underlying37 (by decide) w

theorem info37 : (Try.prog.info? 37).map (fun i => (i.zero, i.size, i.bytes)) = some (some .nilIface, 1, 16) := by kernel_rfl

theorem turned_at {w w' : World} {b : Nat} {a : Addr} {v : Value} (ht : w.mapTurned w' b) (h : w.cell? a = some v) (hne : a.block ≠ b) : w'.cell? a = some v :=
  (World.cell?_of_block (w := w) (ht.grown.block _ (World.block_lt_of_cell? _ _ h) (fun e => hne (by simpa using e)))).trans h

theorem alloc_at {w : World} {a : Addr} {v : Value} (o : Obj) (h : w.cell? a = some v) : (w.alloc o).cell? a = some v :=
  (World.cell?_alloc_lt _ _ _ (World.block_lt_of_cell? w a h)).trans h

theorem below_app {W w2 : World} {O : Obj} (h : ((W.alloc O).drew).grownBy w2 none) : Below W.heap.size W w2 :=
  (((Below.refl _ _).alloc (Nat.le_refl _) O).drew).grown h (by simp) (fun k hk => by cases hk)

theorem MapIs.ne_cell {w : World} {b n : Nat} {m : List UInt8 → Option Value} (h : MapIs w b n m) {a : Addr} {v : Value} (hc : w.cell? a = some v) : a.block ≠ b := by
  obtain ⟨D, ⟨es, clock, hb, _⟩, _⟩ := h
  intro e
  rw [← e] at hb
  simp [World.cell?, hb] at hc

theorem MapIs.ne_block {w : World} {b n k : Nat} {m : List UInt8 → Option Value} (h : MapIs w b n m) {cs : Array Value} {t : TypeId} {f : Nat × Nat} (hc : w.heap[k]? = some (.cells cs t f)) : k ≠ b := by
  obtain ⟨D, ⟨es, clock, hb, _⟩, _⟩ := h
  intro e
  rw [← e, hc] at hb
  cases hb

/-- What is left when the new Ambiguous has been laid and stored. -/
theorem amb_done {W w2 X : World} {b n g cap base p0 j : Nat} {m : List UInt8 → Option Value} {s : ByteArray} {L : List Nat} (hb2 : Below W.heap.size W w2) (hm : MapIs w2 b n m) (hlt : b < W.heap.size)
    (hown : w2.ownsRow base 37 1 (.slice (some ⟨g, 0, none⟩) (L.length + 1) cap) (L.length + 1) (L.map (pv p0) ++ [pv p0 j]))
    (ht : (w2.alloc (.cells #[.string s, .slice (some ⟨g, 0, none⟩) (L.length + 1) cap] 51)).mapTurned X b) :
    Amb X w2.heap.size p0 (L ++ [j]) ∧ W.grownBy X (some b) := by
  have hg := ht.grown
  have hsz := hb2.size
  constructor
  · refine ⟨s, .slice (some ⟨g, 0, none⟩) (L.length + 1) cap, ?_, ?_⟩
    · rw [hg.block _ (by simp) (by simp; omega)]
      exact (MapKept.heap_alloc w2 _).1
    · obtain ⟨h1, h2 | ⟨g', cap', cur, hv, hbase, hgg, r1, r2, r3, r4⟩⟩ := hown
      · exact absurd h2.1 (by simp)
      · cases hv
        have hne := hm.ne_block hgg
        have hgl : g < w2.heap.size := (Array.getElem?_eq_some_iff.1 hgg).1
        refine ⟨by simp, Or.inr ⟨g, cap, cur, by simp, Nat.zero_le _, ?_, by simpa using r1, r2, r3, by simpa using r4⟩⟩
        rw [hg.block _ (by simp; omega) (by simpa using hne), Below.heap_alloc _ _ _ hgl]
        exact hgg
  · refine ⟨hg.os.trans hb2.os, hg.tape.trans hb2.tape, hg.output.trans hb2.output, ?_, fun k hk hkb => ?_⟩
    · have := hg.size
      simp at this
      omega
    · rw [hg.block _ (by simp; omega) hkb, Below.heap_alloc _ _ _ (by omega)]
      exact hb2.block k hk

/-- The store into the map, as a function of the value and of the world. -/
theorem store_fn {b n : Nat} {m : List UInt8 → Option Value} {s : ByteArray} (hs : s.size ≤ maxLen) (hn : n < maxLen) :
    ∃ pw : Value → World → World, ∀ v W, MapIs W b n m → (Instr.mapUpdate 84 (.map (some b)) (.string s) v).run Try.prog W = .ok () (pw v W) ∧ MapIs (pw v W) b (n + 1) (put m s.data.toList v) ∧ W.mapTurned (pw v W) b := by
  classical
  refine ⟨fun v W => if h : MapIs W b n m then Classical.choose (h.store Try.underlying84 hn hs v) else W, fun v W h => ?_⟩
  simp only [dif_pos h]
  exact Classical.choose_spec (h.store Try.underlying84 hn hs v)

/-- 'append' of one element onto a slice that is full: a new row, the value written out. -/
theorem step_append_new {P : Program} {ops : Array Oper} {o : Oper} {a : Act} {w : World} {K : Act → World → Prop} {Q : Exit → Act → World → Prop} {E : Prop}
    (hg : o.guard = none) (s x : Operand) (t : TypeId) (hop : o.op = Op.call { callee := Callee.builtin Builtin.append, args := #[s, x], argTypes := #[t, t] })
    (e : TypeId) (i : TypeInfo) (z : Value) (size bytes : Nat) (h1 : P.underlying t = some (.slice e)) (h2 : P.info? e = some i) (h3 : i.zero = some z) (h4 : i.size = size) (h5 : i.bytes = bytes) (h6 : z.cells.size = size) (h7 : 0 < size)
    (ao : Option Addr) (n cap : Nat) (olds : List Value) (hs : a.eval s = .slice ao n cap) (hnone : ao = none → n = 0 ∧ cap = 0) (hlo : olds.length = n * size) (holds : ∀ b, ao = some b → ∀ j u, olds[j]? = some u → w.cell? (b.add j) = some u)
    (ad : Addr) (m c : Nat) (_hm : 0 < m) (news : List Value) (hx : a.eval x = .slice (some ad) m c) (hn : news.length = m * size) (hc : ∀ j u, news[j]? = some u → w.cell? (ad.add j) = some u) (h1c : ∀ u ∈ news, u.oneCell' = true)
    (hfull : cap < n + m) (b1 : n + m ≤ maxLen) (b2 : (n + m) * bytes ≤ 140737488355328) (d : Option Nat) (hd : o.dst = d)
    (hK : ∀ g cap' w', w'.ownsRow w.heap.size e size (.slice (some ⟨g, 0, none⟩) (n + m) cap') (n + m) (olds ++ news) → w.grownBy w' none → K (a.put d (.slice (some ⟨g, 0, none⟩) (n + m) cap')) w') :
    if Region.wanted o (yielded ops a.tmps) = true then Oper.wp P o a w K Q else E :=
  step_append_grows hg s x t hop e i z size bytes h1 h2 h3 h4 h5 h6 h7 ao n cap olds hs hnone hlo holds ad m c news hx hn hc h1c hfull b1 b2
    (fun v' w' ho hgr => by obtain ⟨g, cap', rfl, _, _⟩ := ho.form (by omega); rw [hd]; exact hK g cap' w' ho hgr)

theorem olds_of {W X : World} {g p0 : Nat} {L : List Nat} (hc : ∀ i, i < L.length → W.cell? ⟨g, i, none⟩ = some (pv p0 (L.getD i 0))) (hb : Below W.heap.size W X) :
    ∀ b, some (⟨g, 0, none⟩ : Addr) = some b → ∀ j u, (L.map (pv p0))[j]? = some u → X.cell? (b.add j) = some u := by
  intro b hb' j u hu
  cases hb'
  rw [Addr.add_lit, Nat.zero_add]
  have hj : j < L.length := by
    have := (List.getElem?_eq_some_iff.1 hu).1
    simpa using this
  rw [List.getElem?_map] at hu
  have h1 := hc j hj
  simp only [List.getD, List.getElem?_eq_getElem hj, Option.map_some, Option.some.injEq, Option.getD_some] at hu h1
  rw [← hu]
  exact cell_later hb h1

section
variable {n b sb p0 : Nat} {m : List UInt8 → Option Value} (s : ByteArray) (j : Nat) (w : World)

theorem imp_fresh (hs : s.size ≤ maxLen) (hn : n < maxLen) (c1 : w.cell? ⟨sb, 1, none⟩ = some (.map (some b))) (hm : MapIs w b n m) (hv : m s.data.toList = none) :
    Calls Try.prog 16 #[.pointer (some ⟨sb, 0, none⟩), .string s, pv p0 j] w fun e w' => e = .returned (.bool true) ∧ MapIs w' b (n + 1) (put m s.data.toList (pv p0 j)) ∧ w.mapTurned w' b := by
  have hl := hm.look Try.underlying84 (zero37 w) hs
  rw [hv] at hl
  simp only [Option.getD_none, Option.isSome_none] at hl
  obtain ⟨w1, hst, hm1, ht⟩ := hm.store Try.underlying84 hn hs (pv p0 j)
  have ta := assert27
  rw [pv_def] at hst ⊢
  clear hm hv
  go_enter Try.func16, Try.ntmps16
  go_wp2
  go_ret
  exact ⟨rfl, hm1, ht⟩

theorem imp_same (hs : s.size ≤ maxLen) (c1 : w.cell? ⟨sb, 1, none⟩ = some (.map (some b))) (hm : MapIs w b n m) (hv : m s.data.toList = some (pv p0 j)) :
    Calls Try.prog 16 #[.pointer (some ⟨sb, 0, none⟩), .string s, pv p0 j] w fun e w' => e = .returned (.bool false) ∧ w' = w := by
  have hl := hm.look Try.underlying84 (zero37 w) hs
  rw [hv] at hl
  simp only [Option.getD_some, Option.isSome_some] at hl
  have ta := assert27
  have q := eql_same
  rw [pv_def] at hl ⊢
  clear hm hv
  go_enter Try.func16, Try.ntmps16
  go_wp2
  go_ret
  exact ⟨rfl, rfl⟩

/-- An Ambiguous, its cells: for the walk. -/
theorem Amb.cells {w : World} {q p0 : Nat} {L : List Nat} (h : Amb w q p0 L) (hL : 0 < L.length) :
    ∃ g cap, w.cell? ⟨q, 1, none⟩ = some (.slice (some ⟨g, 0, none⟩) L.length cap) ∧ L.length ≤ cap ∧ cap ≤ maxLen ∧ ∀ i, i < L.length → w.cell? ⟨g, i, none⟩ = some (pv p0 (L.getD i 0)) := by
  obtain ⟨s, v, hq, hlen, h1 | ⟨g, cap, cur, rfl, _, hg, hc1, hc2, hcs, htk⟩⟩ := h
  · omega
  · refine ⟨g, cap, by simp [World.cell?, hq], hc1, hc2, fun i hi => ?_⟩
    have h1 : (cur.toList.take (L.length * 1))[i]? = (L.map (pv p0))[i]? := by rw [htk]
    rw [List.getElem?_take_of_lt (by omega), List.getElem?_map] at h1
    simp only [World.cell?, hg, Array.getElem?_toList] at h1 ⊢
    rw [h1]
    simp [List.getD, hi]

theorem imp_in {L : List Nat} {q : Nat} (hs : s.size ≤ maxLen) (c1 : w.cell? ⟨sb, 1, none⟩ = some (.map (some b))) (hm : MapIs w b n m) (hp : PoolIs w p0) (hj : j < 4) (hv : m s.data.toList = some (.iface 48 (.pointer (some ⟨q, 0, none⟩))))
    (ha : Amb w q p0 L) (hL4 : ∀ x ∈ L, x < 4) (hl4 : L.length ≤ 4) (hjL : j ∈ L) :
    Calls Try.prog 16 #[.pointer (some ⟨sb, 0, none⟩), .string s, pv p0 j] w fun e w' => e = .returned (.bool false) ∧ w' = w := by
  have hl := hm.look Try.underlying84 (zero37 w) hs
  rw [hv] at hl
  simp only [Option.getD_some, Option.isSome_some] at hl
  obtain ⟨g, cap, d1, _, _, hc⟩ := ha.cells (List.length_pos_of_mem hjL)
  have hct := contains_any g cap p0 L j w hp hj hL4 hl4 hc
  rw [decide_eq_true hjL] at hct
  have ta := assert27
  have tb := assert48
  have q2 := eql48_27
  rw [pv_def] at hct ⊢
  have HC : Hid _ := hct
  clear hm hv hc hct
  go_enter Try.func16, Try.ntmps16
  go_wp2_with (go_at_call 28; refine Calls.mono HC.out ?_; rintro e w' ⟨rfl, rfl⟩)
  go_ret
  exact ⟨rfl, rfl⟩

theorem imp_more {L : List Nat} {q : Nat} (hs : s.size ≤ maxLen) (hn : n < maxLen) (c1 : w.cell? ⟨sb, 1, none⟩ = some (.map (some b))) (hm : MapIs w b n m) (hp : PoolIs w p0) (hj : j < 4) (hv : m s.data.toList = some (.iface 48 (.pointer (some ⟨q, 0, none⟩))))
    (ha : Amb w q p0 L) (hL4 : ∀ x ∈ L, x < 4) (hl4 : L.length ≤ 4) (hl1 : 0 < L.length) (hjL : j ∉ L) :
    Calls Try.prog 16 #[.pointer (some ⟨sb, 0, none⟩), .string s, pv p0 j] w fun e w' => e = .returned (.bool true) ∧ ∃ q', MapIs w' b (n + 1) (put m s.data.toList (.iface 48 (.pointer (some ⟨q', 0, none⟩)))) ∧ Amb w' q' p0 (L ++ [j]) ∧ w.grownBy w' (some b) := by
  have hl := hm.look Try.underlying84 (zero37 w) hs
  rw [hv] at hl
  simp only [Option.getD_some, Option.isSome_some] at hl
  obtain ⟨g, cap, d1, _, _, hc⟩ := ha.cells hl1
  have hct := contains_any g cap p0 L j w hp hj hL4 hl4 hc
  rw [decide_eq_false hjL] at hct
  have ta := assert27
  have tb := assert48
  have q2 := eql48_27
  rw [pv_def] at hct ⊢
  have HC : Hid _ := hct
  clear hv hct
  obtain ⟨i0, hi, hz0, hz1, hz2⟩ := info_parts info37
  obtain ⟨pw, hpw⟩ := store_fn (b := b) (n := n) (m := m) (s := s) hs hn
  have hput : ∀ v W, MapIs W b n m → (Instr.mapUpdate 84 (.map (some b)) (.string s) v).run Try.prog W = .ok () (pw v W) := fun v W h => (hpw v W h).1
  have HP : Hid _ := hpw
  have HM : Hid (MapIs w b n m) := hm
  have ne1 := hm.ne_cell c1
  have ne2 := hm.ne_cell d1
  have HCs : Hid _ := hc
  clear hpw hm hc
  go_enter Try.func16, Try.ntmps16
  go_wp2_with (go_at_call 28; refine Calls.mono HC.out ?_; rintro e w' ⟨rfl, rfl⟩)
  clear HC hl
  go_region_held_law (fun x => x.cell? ⟨sb, 1, none⟩ = some (.map (some b)) ∧ x.cell? ⟨q, 1, none⟩ = some (.slice (some ⟨g, 0, none⟩) L.length cap)) (go_keep) (first
    | (go_at_call 29; refine (clip_any g 0 L.length cap _ (by assumption)).mono ?_; rintro e w2 ⟨rfl, rfl⟩; have tokC : True := trivial)
    | (have _t := tokC; show ite _ _ _; (refine step_append_new rfl (.tmp 88) (.tmp 90) 49 rfl 37 i0 .nilIface 1 16 Try.underlying49 hi hz0 hz1 hz2 rfl (by decide) (some ⟨g, 0, none⟩) L.length L.length (L.map (pv p0)) (by simp [Act.eval]) (by simp) (by simp) (olds_of HCs.out (by exact ((Below.refl _ _).alloc (Nat.le_refl _) _).drew)) ⟨w'.heap.size, 0, none⟩ 1 1 (by omega) [pv p0 j] (by simp [Act.eval]) (by simp) (by exact cell_one_new _ _ _) (by simp [pv_def, Value.oneCell']) (by omega) (by unfold maxLen; omega) (by omega) (some 91) rfl ?_; intro g2 cap2 w2 hown hgrow; have hb2 := below_app hgrow; have k1 := cell_later hb2 c1; have k2 := cell_later hb2 d1; have hmw : MapIs w2 b n m := MapIs.block HM.out (hb2.block _ (MapIs.lt HM.out)); have hma := fun O => hmw.alloc O; have k3 := fun v O => turned_at (HP.out v (w2.alloc O) (hma O)).2.2 (alloc_at O k1) ne1; have k4 := fun v O => turned_at (HP.out v (w2.alloc O) (hma O)).2.2 (alloc_at O k2) ne2; simp only [Act.put, List.setIfInBounds_toArray, List.set_cons_zero, List.set_cons_succ])))
  all_goals
    go_wp2
    go_ret
    have hd := amb_done (s := s) hb2 hmw (MapIs.lt HM.out) hown (HP.out (.iface 48 (.pointer (some ⟨w2.heap.size, 0, none⟩))) _ (hma _)).2.2
    exact ⟨rfl, w2.heap.size, (HP.out _ _ (hma _)).2.1, hd.1, hd.2⟩

theorem imp_second {i : Nat} (hs : s.size ≤ maxLen) (hn : n < maxLen) (c1 : w.cell? ⟨sb, 1, none⟩ = some (.map (some b))) (hm : MapIs w b n m) (hp : PoolIs w p0) (hj : j < 4) (hi4 : i < 4) (hv : m s.data.toList = some (pv p0 i)) (hij : ¬ i = j) :
    Calls Try.prog 16 #[.pointer (some ⟨sb, 0, none⟩), .string s, pv p0 j] w fun e w' => e = .returned (.bool true) ∧ ∃ q', MapIs w' b (n + 1) (put m s.data.toList (.iface 48 (.pointer (some ⟨q', 0, none⟩)))) ∧ Amb w' q' p0 [i, j] ∧ w.grownBy w' (some b) := by
  have hl := hm.look Try.underlying84 (zero37 w) hs
  rw [hv] at hl
  simp only [Option.getD_some, Option.isSome_some] at hl
  have q1 := pv_eql hp i j hi4 hj
  rw [decide_eq_false hij] at q1
  have ta := assert27
  rw [pv_def, pv_def] at q1
  rw [pv_def] at hl ⊢
  have HM0 : Hid (MapIs w b n m) := hm
  clear hv hm hp
  obtain ⟨i0, hi, hz0, hz1, hz2⟩ := info_parts info37
  obtain ⟨pw, hpw⟩ := store_fn (b := b) (n := n) (m := m) (s := s) hs hn
  have hput : ∀ v W, MapIs W b n m → (Instr.mapUpdate 84 (.map (some b)) (.string s) v).run Try.prog W = .ok () (pw v W) := fun v W h => (hpw v W h).1
  have HP : Hid _ := hpw
  clear hpw
  go_enter Try.func16, Try.ntmps16
  go_wp2
  clear hl q1 ta
  have hB : Below w.heap.size w ((w.alloc (.cells #[.iface 27 (.pointer (some ⟨p0 + i, 0, none⟩))] 37)).alloc (.cells #[.string s, .slice (some ⟨w.heap.size, 0, none⟩) 1 1] 51)) := (((Below.refl _ _).alloc (Nat.le_refl _) _).alloc (by simp) _)
  have HM : Hid (MapIs ((w.alloc (.cells #[.iface 27 (.pointer (some ⟨p0 + i, 0, none⟩))] 37)).alloc (.cells #[.string s, .slice (some ⟨w.heap.size, 0, none⟩) 1 1] 51)) b n m) := (MapIs.alloc (MapIs.alloc HM0.out _) _)
  have d1 : ((w.alloc (.cells #[.iface 27 (.pointer (some ⟨p0 + i, 0, none⟩))] 37)).alloc (.cells #[.string s, .slice (some ⟨w.heap.size, 0, none⟩) 1 1] 51)).cell? ⟨w.heap.size + 1, 1, none⟩ = some (.slice (some ⟨w.heap.size, 0, none⟩) 1 1) := by go_simp
  have HCs : Hid (∀ k, k < [i].length → ((w.alloc (.cells #[.iface 27 (.pointer (some ⟨p0 + i, 0, none⟩))] 37)).alloc (.cells #[.string s, .slice (some ⟨w.heap.size, 0, none⟩) 1 1] 51)).cell? ⟨w.heap.size, k, none⟩ = some (pv p0 ([i].getD k 0))) := by
    intro k hk
    have hk0 : k = 0 := by simpa using hk
    subst hk0
    show _ = some (Value.iface 27 (.pointer (some ⟨p0 + i, 0, none⟩)))
    go_simp
  have c1' := cell_later hB c1
  have hlt : b < w.heap.size := MapIs.lt HM0.out
  clear c1 HM0
  generalize (w.alloc (.cells #[.iface 27 (.pointer (some ⟨p0 + i, 0, none⟩))] 37)).alloc (.cells #[.string s, .slice (some ⟨w.heap.size, 0, none⟩) 1 1] 51) = W at hB HM d1 HCs c1' ⊢
  have ne1 := MapIs.ne_cell HM.out c1'
  have ne2 := MapIs.ne_cell HM.out d1
  generalize w.heap.size + 1 = q at d1 ne2 ⊢
  go_region_held_law (fun x => x.cell? ⟨sb, 1, none⟩ = some (.map (some b)) ∧ x.cell? ⟨q, 1, none⟩ = some (.slice (some ⟨w.heap.size, 0, none⟩) 1 1)) (go_keep) (first
    | (go_at_call 29; refine (clip_any w.heap.size 0 1 1 _ (by omega)).mono ?_; rintro e w2 ⟨rfl, rfl⟩; have tokC : True := trivial)
    | (have _t := tokC; show ite _ _ _; (refine step_append_new rfl (.tmp 88) (.tmp 90) 49 rfl 37 i0 .nilIface 1 16 Try.underlying49 hi hz0 hz1 hz2 rfl (by decide) (some ⟨w.heap.size, 0, none⟩) 1 1 ([i].map (pv p0)) (by simp [Act.eval]) (by simp) (by simp) (olds_of HCs.out (by exact ((Below.refl _ _).alloc (Nat.le_refl _) _).drew)) ⟨W.heap.size, 0, none⟩ 1 1 (by omega) [pv p0 j] (by simp [Act.eval]) (by simp) (by exact cell_one_new _ _ _) (by simp [pv_def, Value.oneCell']) (by omega) (by unfold maxLen; omega) (by omega) (some 91) rfl ?_; intro g2 cap2 w2 hown hgrow; have hb2 := below_app hgrow; have k1 := cell_later hb2 c1'; have k2 := cell_later hb2 d1; have hmw : MapIs w2 b n m := MapIs.block HM.out (hb2.block _ (MapIs.lt HM.out)); have hma := fun O => hmw.alloc O; have k3 := fun v O => turned_at (HP.out v (w2.alloc O) (hma O)).2.2 (alloc_at O k1) ne1; have k4 := fun v O => turned_at (HP.out v (w2.alloc O) (hma O)).2.2 (alloc_at O k2) ne2; simp only [Act.put, List.setIfInBounds_toArray, List.set_cons_zero, List.set_cons_succ])))
  all_goals
    go_wp2
    go_ret
    have hd := amb_done (s := s) (L := [i]) (hB.trans (hb2.mono hB.size)) hmw hlt hown (HP.out (.iface 48 (.pointer (some ⟨w2.heap.size, 0, none⟩))) _ (hma _)).2.2
    exact ⟨rfl, w2.heap.size, (HP.out _ _ (hma _)).2.1, hd.1, hd.2⟩

end
end Go.Proofs.Qxb6003857a
