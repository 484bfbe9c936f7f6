/-
  WHILE A NODE IS BUILT, MORE: slices of children that grow by append.
-/
import Derived.Test.Qxb6003857aGreatEachD
namespace Go.Proofs.Qxb6003857aGreat
open Go.RowKit

/-- The tags of the blocks in which children, and what leads to them, lie. -/
def NodeTag (t : TypeId) : Prop := t = 179 ∨ t = 131 ∨ t = 43 ∨ t = 82 ∨ t = 105 ∨ t = 64 ∨ t = 216 ∨ t = 78 ∨ t = 92

/-- They are as they were. -/
structure Keep (w w' : World) : Prop where
  size : w.heap.size ≤ w'.heap.size
  block : ∀ (k : Nat) (c : Array Value) (t : TypeId) (m : Nat × Nat), w.heap[k]? = some (Obj.cells c t m) → NodeTag t → w'.heap[k]? = w.heap[k]?

theorem Keep.refl (w : World) : Keep w w := ⟨Nat.le_refl _, fun _ _ _ _ _ _ => rfl⟩
theorem Keep.trans {w w1 w2 : World} (h : Keep w w1) (h' : Keep w1 w2) : Keep w w2 :=
  ⟨Nat.le_trans h.size h'.size, fun k c t m hk ht => (h'.block k c t m ((h.block k c t m hk ht).trans hk) ht).trans (h.block k c t m hk ht)⟩

theorem NodeTag.ne {t : TypeId} (h : NodeTag t) : t ≠ 3 ∧ t ≠ 28 ∧ t ≠ 29 := by
  rcases h with rfl | rfl | rfl | rfl | rfl | rfl | rfl | rfl | rfl <;> decide

theorem Stay.keep {w w' : World} (h : Stay w w') : Keep w w' := ⟨h.size, fun k c t m hk ht => h.block k c t m hk ht.ne.1 ht.ne.2.1 ht.ne.2.2⟩

theorem Keep.at_ {w w1 : World} (h : Keep w w1) {k : Nat} {c : Array Value} {t : TypeId} {m : Nat × Nat} (hk : w.heap[k]? = some (.cells c t m)) (ht : NodeTag t) : w1.heap[k]? = some (.cells c t m) := (h.block k c t m hk ht).trans hk

theorem PosIs.keep {w w' : World} {c : Value} {p : Int} (h : PosIs w c p) (hs : Keep w w') : PosIs w' c p := by
  obtain ⟨T, t, b, hc, ⟨ht, cs, hb, h0⟩ | ⟨ht, cs, cs', b', hb, h0, hb', h0'⟩⟩ := h
  · have hne : NodeTag t := by
      rcases ht with ⟨_, rfl⟩ | ⟨_, rfl⟩ | ⟨_, rfl⟩ | ⟨_, rfl⟩ | ⟨_, rfl⟩ <;> (unfold NodeTag; decide)
    exact ⟨T, t, b, hc, Or.inl ⟨ht, cs, hs.at_ hb hne, h0⟩⟩
  · exact ⟨T, t, b, hc, Or.inr ⟨ht, cs, cs', b', hs.at_ hb (by unfold NodeTag; decide), h0, hs.at_ hb' (by unfold NodeTag; decide), h0'⟩⟩

theorem Kids.keep {w w' : World} {xs : List Value} {ps : List Int} (h : Kids w xs ps) (hs : Keep w w') : Kids w' xs ps := ⟨h.1, fun k hk => (h.2 k hk).keep hs⟩

theorem SpecIs.keep {tag fld : Nat} {w w' : World} {x : Value} {q : Option Int} (h : SpecIs tag fld w x q) (ht : NodeTag tag) (hs : Keep w w') : SpecIs tag fld w' x q := by
  obtain ⟨b, cs, c, hx, hb, hf, hq⟩ := h
  refine ⟨b, cs, c, hx, hs.at_ hb ht, hf, ?_⟩
  rcases hq with hq | ⟨p, h1, h2⟩
  · exact Or.inl hq
  · exact Or.inr ⟨p, h1, h2.keep hs⟩

theorem Specs.keep {tag fld : Nat} {w w' : World} {xs : List Value} {qs : List (Option Int)} (h : Specs tag fld w xs qs) (ht : NodeTag tag) (hs : Keep w w') : Specs tag fld w' xs qs := ⟨h.1, fun k hk => (h.2 k hk).keep ht hs⟩

/-- A catch clause's pointer, wrapped. -/
def Cats (w : World) (xs : List Value) (ps : List Int) : Prop := xs.length = ps.length ∧ ∀ k, k < xs.length → PosIs w (.iface 103 (xs.getD k .nilIface)) (ps.getD k 0)
theorem Cats.keep {w w' : World} {xs : List Value} {ps : List Int} (h : Cats w xs ps) (hs : Keep w w') : Cats w' xs ps := ⟨h.1, fun k hk => (h.2 k hk).keep hs⟩

theorem getD_snoc_lt {α : Type} (xs : List α) (x d : α) (k : Nat) (h : k < xs.length) : (xs ++ [x]).getD k d = xs.getD k d := by
  simp only [List.getD]
  rw [List.getElem?_append_left h]
theorem getD_snoc_eq {α : Type} (xs : List α) (x d : α) : (xs ++ [x]).getD xs.length d = x := by
  simp [List.getD]

theorem Kids.snoc {w : World} {xs : List Value} {ps : List Int} {x : Value} {p : Int} (h : Kids w xs ps) (hx : PosIs w x p) : Kids w (xs ++ [x]) (ps ++ [p]) := by
  refine ⟨by simp [h.1], fun k hk => ?_⟩
  simp only [List.length_append, List.length_singleton] at hk
  by_cases e : k < xs.length
  · rw [getD_snoc_lt _ _ _ _ e, getD_snoc_lt _ _ _ _ (by rw [← h.1]; exact e)]
    exact h.2 k e
  · have e2 : k = xs.length := by omega
    subst e2
    rw [getD_snoc_eq, h.1, getD_snoc_eq]
    exact hx

theorem Cats.snoc {w : World} {xs : List Value} {ps : List Int} {x : Value} {p : Int} (h : Cats w xs ps) (hx : PosIs w (.iface 103 x) p) : Cats w (xs ++ [x]) (ps ++ [p]) := by
  refine ⟨by simp [h.1], fun k hk => ?_⟩
  simp only [List.length_append, List.length_singleton] at hk
  by_cases e : k < xs.length
  · rw [getD_snoc_lt _ _ _ _ e, getD_snoc_lt _ _ _ _ (by rw [← h.1]; exact e)]
    exact h.2 k e
  · have e2 : k = xs.length := by omega
    subst e2
    rw [getD_snoc_eq, h.1, getD_snoc_eq]
    exact hx

theorem Specs.snoc {tag fld : Nat} {w : World} {xs : List Value} {qs : List (Option Int)} {x : Value} {q : Option Int} (h : Specs tag fld w xs qs) (hx : SpecIs tag fld w x q) : Specs tag fld w (xs ++ [x]) (qs ++ [q]) := by
  refine ⟨by simp [h.1], fun k hk => ?_⟩
  simp only [List.length_append, List.length_singleton] at hk
  by_cases e : k < xs.length
  · rw [getD_snoc_lt _ _ _ _ e, getD_snoc_lt _ _ _ _ (by rw [← h.1]; exact e)]
    exact h.2 k e
  · have e2 : k = xs.length := by omega
    subst e2
    rw [getD_snoc_eq, h.1, getD_snoc_eq]
    exact hx

theorem places_snoc (qs : List (Option Int)) (q : Option Int) : places (qs ++ [q]) = places qs ++ q.toList := by
  unfold places
  rw [List.filterMap_append]
  cases q <;> rfl

theorem kids_nil (w : World) : Kids w [] [] := ⟨rfl, fun k hk => by simp at hk⟩
theorem cats_nil (w : World) : Cats w [] [] := ⟨rfl, fun k hk => by simp at hk⟩
theorem specs_nil (tag fld : Nat) (w : World) : Specs tag fld w [] [] := ⟨rfl, fun k hk => by simp at hk⟩

/-- The row of a slice, from what owns it. -/
theorem rowOf {w : World} {base e n : Nat} {v : Value} {xs : List Value} (h : w.ownsRow base e 1 v n xs) (hn : n = xs.length) : RowOf w v xs := by
  subst hn
  obtain ⟨hl, ⟨rfl, h0⟩ | ⟨g, cap, cur, rfl, _, hg, _, _, _, htk⟩⟩ := h
  · exact ⟨none, 0, 0, by rw [h0], fun k hk => by omega⟩
  · refine ⟨_, cap, g, rfl, fun k hk => ⟨rfl, ?_⟩⟩
    have h1 : (cur.toList.take (xs.length * 1))[k]? = xs[k]? := by rw [htk]
    rw [List.getElem?_take_of_lt (by omega)] at h1
    simp only [World.cell?, hg, Array.getElem?_toList] at h1 ⊢
    rw [h1]
    simp [List.getD, hk]

theorem own_form {w : World} {base e n : Nat} {v : Value} {xs : List Value} (h : w.ownsRow base e 1 v n xs) : ∃ a n c, v = .slice a n c := by
  obtain ⟨_, ⟨rfl, _⟩ | ⟨g, cap, cur, rfl, _⟩⟩ := h
  · exact ⟨_, _, _, rfl⟩
  · exact ⟨_, _, _, rfl⟩

/-- It stays while other tags are written. -/
theorem own_stay {w w' : World} {base e n : Nat} {v : Value} {xs : List Value} (h : w.ownsRow base e 1 v n xs) (hs : Stay w w') (h1 : e ≠ 3) (h2 : e ≠ 28) (h3 : e ≠ 29) : w'.ownsRow base e 1 v n xs := by
  obtain ⟨hl, h0 | ⟨g, cap, cur, hv, hb, hg, r⟩⟩ := h
  · exact ⟨hl, Or.inl h0⟩
  · exact ⟨hl, Or.inr ⟨g, cap, cur, hv, hb, hs.at_ hg h1 h2 h3, r⟩⟩

/-- Behind an append onto such a slice. -/
theorem Bld.grow {w1 w w3 : World} {G E len i n e : Nat} {a : Option Addr} {d : Nat → Nat} {cur : Int} {xs : List Int} {v : Value} {vs : List Value} {O : Obj} (h : Bld w1 G E a len d w i cur xs) (hown : w.ownsRow w1.heap.size e 1 v n vs) (hg : (w.alloc O).grownBy w3 v.ownBlock)
    (he : e ≠ 3 ∧ e ≠ 5 ∧ e ≠ 28 ∧ e ≠ 29) (hne : ¬ NodeTag e) : Bld w1 G E a len d w3 i cur xs ∧ Keep w w3 := by
  have hvb : ∀ b, v.ownBlock = some b → w1.heap.size ≤ b ∧ ∃ c, w.heap[b]? = some (.cells c e (0, 0)) := by
    intro b hb
    rcases hown.2 with ⟨e1, _⟩ | ⟨g, cap, cur', e1, h1, h2, _⟩
    · rw [e1] at hb; cases hb
    · rw [e1] at hb; cases hb; exact ⟨h1, _, h2⟩
  have hgs := hg.size
  simp at hgs
  have hblk : ∀ k, k < w.heap.size → some k ≠ v.ownBlock → w3.heap[k]? = w.heap[k]? := fun k h1 h2 => (hg.block k (by simp; omega) h2).trans (Below.heap_alloc _ _ _ h1)
  have htag : ∀ (k : Nat) (c : Array Value) (t : TypeId) (m : Nat × Nat), w.heap[k]? = some (Obj.cells c t m) → t ≠ e → w3.heap[k]? = w.heap[k]? := fun k c t m hk ht => hblk k (Array.getElem?_eq_some_iff.1 hk).1 (fun e1 => by
    obtain ⟨_, c', e2⟩ := hvb k e1.symm
    rw [hk] at e2
    cases e2
    exact ht rfl)
  have hrow : ∀ {b : Nat} {t : TypeId} {m : Nat} {f : Nat → Value}, w.rowIs b t m f → t ≠ e → w3.rowIs b t m f := fun hr ht => by
    obtain ⟨c, hc, r⟩ := hr
    exact ⟨c, (htag _ _ _ _ hc ht).trans hc, r⟩
  refine ⟨{ below := h.below.trans ⟨hg.os, hg.tape, hg.output, by omega, fun k hk => hblk k (by have := h.below.size; omega) (fun e1 => by have := (hvb k e1.symm).1; omega)⟩, hG := h.hG, hGE := h.hGE, gen := ⟨hrow h.gen.row (fun e1 => he.2.2.1 e1.symm), ?_, h.gen.hd, h.gen.hl⟩, expv := ?_, inc := h.inc, top := h.top, bd := h.bd }, ⟨by omega, fun k c t m hk ht => htag k c t m hk (fun e1 => hne (e1 ▸ ht))⟩⟩
  · rcases h.gen.seq with h0 | ⟨b, hb, hr⟩
    · exact Or.inl h0
    · exact Or.inr ⟨b, hb, hrow hr (fun e1 => he.2.1 e1.symm)⟩
  · obtain ⟨u, h1, h2, h3 | ⟨g, cap, cur', hv, hbase, hgg, r⟩⟩ := h.expv
    · exact ⟨u, hrow h1 (fun e1 => he.2.2.2 e1.symm), h2, Or.inl h3⟩
    · exact ⟨u, hrow h1 (fun e1 => he.2.2.2 e1.symm), h2, Or.inr ⟨g, cap, cur', hv, hbase, (htag _ _ _ _ hgg (fun e1 => he.1 e1.symm)).trans hgg, r⟩⟩

/-- A node that is laid anew: its block. -/
theorem new_block (w : World) (cs : Array Value) (t : TypeId) : (w.alloc (.cells cs t)).heap[w.heap.size]? = some (.cells cs t (0, 0)) := (MapKept.heap_alloc w _).1

theorem keep_alloc (w : World) (o : Obj) : Keep w (w.alloc o) := ((Stay.refl w).alloc o).keep

/-- An identifier that was laid at place p. -/
def IdentAt (w : World) (b : Nat) (p : Int) : Prop := w.heap[b]? = some (.cells #[.int .i64 p, .string ⟨#[120]⟩] 216 (0, 0))
theorem IdentAt.keep {w w' : World} {b : Nat} {p : Int} (h : IdentAt w b p) (hs : Keep w w') : IdentAt w' b p := hs.at_ h (by unfold NodeTag; decide)

theorem ident_at (p : Int) (w : World) : Calls Tryz.prog 15 #[.int .i64 p] w fun e w' => ∃ b, e = .returned (.pointer (some ⟨b, 0, none⟩)) ∧ IdentAt w' b p ∧ Stay w w' ∧ ∀ {w1 : World} {G E len i : Nat} {a : Option Addr} {d : Nat → Nat} {cur : Int} {xs : List Int}, Bld w1 G E a len d w i cur xs → Bld w1 G E a len d w' i cur xs :=
  (ident_any p w).mono fun e w' ⟨he, hw⟩ => by
    subst hw
    exact ⟨_, he, new_block _ _ _, (Stay.refl _).alloc _, fun h => h.alloc _⟩

theorem named_at (p : Int) (w : World) : Calls Tryz.prog 14 #[.int .i64 p] w fun e w' => ∃ b, e = .returned (.pointer (some ⟨b, 0, none⟩)) ∧ Stay w w' ∧ ∀ {w1 : World} {G E len i : Nat} {a : Option Addr} {d : Nat → Nat} {cur : Int} {xs : List Int}, Bld w1 G E a len d w i cur xs → Bld w1 G E a len d w' i cur xs :=
  (named_any p w).mono fun e w' ⟨b, he, o1, o2, hw⟩ => by
    subst hw
    exact ⟨_, he, ((Stay.refl _).alloc _).alloc _, fun h => (h.alloc _).alloc _⟩

theorem bit_int (f k : Int) (w : World) (h0 : 0 ≤ k) (h1 : k < 64) : Calls Tryz.prog 12 #[.int .u32 f, .int .i64 k] w fun e w' => ∃ b : Bool, e = .returned (.bool b) ∧ w = w' := by
  obtain ⟨i, rfl⟩ : ∃ i : Nat, k = i := ⟨k.toNat, by omega⟩
  exact (bit_any f i w (by omega)).mono fun e w' ⟨b, he, hw⟩ => ⟨b, he, hw.symm⟩

theorem news_two (W : World) (o1 : Obj) (x : Value) (t : TypeId) : ∀ j u, [x][j]? = some u → ((W.alloc o1).alloc (.cells #[x] t)).cell? ((⟨W.heap.size + 1, 0, none⟩ : Addr).add j) = some u := by
  have h := cell_one_new (W.alloc o1) x t
  rwa [World.size_alloc] at h

theorem info39 : (Tryz.prog.info? 39).map (fun i => (i.zero, i.size, i.bytes)) = some (some .nilIface, 1, 16) := by kernel_rfl
theorem info45 : (Tryz.prog.info? 45).map (fun i => (i.zero, i.size, i.bytes)) = some (some .nilIface, 1, 16) := by kernel_rfl
theorem info70 : (Tryz.prog.info? 70).map (fun i => (i.zero, i.size, i.bytes)) = some (some .nilIface, 1, 16) := by kernel_rfl
theorem info76 : (Tryz.prog.info? 76).map (fun i => (i.zero, i.size, i.bytes)) = some (some (.pointer none), 1, 8) := by kernel_rfl
theorem info89 : (Tryz.prog.info? 89).map (fun i => (i.zero, i.size, i.bytes)) = some (some (.pointer none), 1, 8) := by kernel_rfl
theorem info103 : (Tryz.prog.info? 103).map (fun i => (i.zero, i.size, i.bytes)) = some (some (.pointer none), 1, 8) := by kernel_rfl

theorem Keep2.keep {w0 w w' : World} (h : Keep w0 w) (hs : Keep w w') : Keep w0 w' := h.trans hs
theorem Specs78.keep {w w' : World} {xs : List Value} {qs : List (Option Int)} (h : Specs 78 1 w xs qs) (hs : Keep w w') : Specs 78 1 w' xs qs := Specs.keep h (by unfold NodeTag; decide) hs
theorem Specs92.keep {w w' : World} {xs : List Value} {qs : List (Option Int)} (h : Specs 92 6 w xs qs) (hs : Keep w w') : Specs 92 6 w' xs qs := Specs.keep h (by unfold NodeTag; decide) hs

theorem spec_new (tag fld : Nat) (W : World) (cs : Array Value) (c : Value) (q : Option Int) (hf : cs[fld]? = some c) (hq : (q = none ∧ c = .nilIface) ∨ ∃ p, q = some p ∧ PosIs W c p) : SpecIs tag fld (W.alloc (.cells cs tag)) (.pointer (some ⟨W.heap.size, 0, none⟩)) q := by
  refine ⟨_, cs, c, rfl, new_block _ _ _, hf, ?_⟩
  rcases hq with h | ⟨p, h1, h2⟩
  · exact Or.inl h
  · exact Or.inr ⟨p, h1, h2.keep (keep_alloc _ _)⟩

theorem namedarg_new (W : World) (cs : Array Value) (bi : Nat) (p : Int) (hI : IdentAt W bi p) (h0 : cs[0]? = some (.pointer (some ⟨bi, 0, none⟩))) : PosIs (W.alloc (.cells cs 64)) (.iface 62 (.pointer (some ⟨W.heap.size, 0, none⟩))) p :=
  ⟨62, 64, _, rfl, Or.inr ⟨⟨rfl, rfl⟩, cs, _, bi, new_block _ _ _, h0, hI.keep (keep_alloc _ _), rfl⟩⟩

/-- What buildParent leaves. -/
def Built (w1 : World) (G E : Nat) (a : Option Addr) (len : Nat) (d : Nat → Nat) (node : Value) (w' : World) : Prop :=
  ∃ i cur xs, Bld w1 G E a len d w' i cur xs ∧ xs.length ≤ 200 ∧ Visits w' node xs

end Go.Proofs.Qxb6003857aGreat
