/-
  buildAbove (11): a map from names to slices of names.
-/
import Derived.Test.Qxb6600574aGuard2
namespace Go.Proofs.Qxb6600574a
open Go.RowKit

theorem lit_cell (w : World) (x : ByteArray) : (w.alloc (.cells #[.string x] 9)).cell? ⟨w.heap.size, 0, none⟩ = some (.string x) := by simp

/-- Block bm of wr is a map that has an entry at just the names of D; the entry at s is a slice whose elements are L s; what was in W is as it was. -/
def Abv (W wr : World) (bm : Nat) (D : ByteArray → Prop) (L : ByteArray → List ByteArray) (mx : Nat) : Prop :=
  ∃ (m : Nat) (f : ByteArray → Option Value) (Bk : ByteArray → Nat) (V : ByteArray → Value), m ≤ mx ∧ strMap Try.prog 9 wr bm m f ∧ (∀ s, (D s → f s = some (V s)) ∧ (¬ D s → f s = none ∧ L s = [])) ∧
    (∀ s, L s = [] → V s = .slice none 0 0) ∧ (∀ s, L s ≠ [] → Que wr (Bk s) (V s) (L s) ∧ W.heap.size ≤ Bk s ∧ Bk s ≠ bm) ∧ (∀ s t, L s ≠ [] → L t ≠ [] → Bk s = Bk t → s = t) ∧ Below W.heap.size W wr ∧ W.heap.size ≤ bm

section
variable {W wr : World} {bm mx : Nat} {D : ByteArray → Prop} {L : ByteArray → List ByteArray}

theorem Abv.congr {D' : ByteArray → Prop} {L' : ByteArray → List ByteArray} {mx' : Nat} (h : Abv W wr bm D L mx) (h1 : ∀ s, D s ↔ D' s) (h2 : ∀ s, L s = L' s) (h3 : mx ≤ mx') : Abv W wr bm D' L' mx' := by
  have e1 : D = D' := funext fun s => propext (h1 s)
  have e2 : L = L' := funext h2
  subst e1 e2
  obtain ⟨m, f, Bk, V, k1, k2⟩ := h
  exact ⟨m, f, Bk, V, by omega, k2⟩

theorem abv_made (W : World) : Abv W (W.alloc (.map #[] 0)) W.heap.size (fun _ => False) (fun _ => []) 0 :=
  ⟨0, fun _ => none, fun _ => 0, fun _ => .slice none 0 0, Nat.le_refl _, strMap_made _ _ _, fun _ => ⟨fun h => h.elim, fun _ => ⟨rfl, rfl⟩⟩, fun _ _ => rfl, fun _ h => absurd rfl h, fun _ _ h => absurd rfl h, (Below.refl _ _).alloc (Nat.le_refl _) _, Nat.le_refl _⟩

theorem Abv.below (h : Abv W wr bm D L mx) : Below W.heap.size W wr := by
  obtain ⟨m, f, Bk, V, _, _, _, _, _, _, h7, _⟩ := h
  exact h7

theorem Abv.base (h : Abv W wr bm D L mx) : W.heap.size ≤ bm := by
  obtain ⟨m, f, Bk, V, _, _, _, _, _, _, _, h8⟩ := h
  exact h8

theorem Abv.later {w' : World} (h : Abv W wr bm D L mx) (hb : Below wr.heap.size wr w') : Abv W w' bm D L mx := by
  obtain ⟨m, f, Bk, V, k1, k2, k3, k4, k5, k6, k7, k8⟩ := h
  refine ⟨m, f, Bk, V, k1, k2.of_block (hb.block _ k2.lt), k3, k4, fun s hs => ⟨(k5 s hs).1.other hb.size (fun hl => hb.block _ hl), (k5 s hs).2⟩, k6, k7.trans (hb.mono k7.size), k8⟩

theorem Abv.drew (h : Abv W wr bm D L mx) : Abv W wr.drew bm D L mx := h.later (Below.refl _ _).drew

/-- 'above[s]', its slice. -/
theorem Abv.look (h : Abv W wr bm D L mx) {s : ByteArray} (hs : s.size ≤ maxLen) :
    ∃ v b, (∀ w', Below wr.heap.size wr w' → (Instr.lookup 30 (.map (some bm)) (.string s) false).run Try.prog w' = .ok v w') ∧ Que wr b v (L s) ∧ W.heap.size ≤ b := by
  obtain ⟨m, f, Bk, V, k1, k2, k3, k4, k5, k6, k7, k8⟩ := h
  have hv : ∀ w', Below wr.heap.size wr w' → (Instr.lookup 30 (.map (some bm)) (.string s) false).run Try.prog w' = .ok (V s) w' := by
    intro w' hb
    have := (k2.of_block (hb.block _ k2.lt)).look Try.underlying9 Try.underlying30 (zero23 w') hs
    rw [this]
    by_cases hd : D s
    · rw [(k3 s).1 hd]; rfl
    · rw [((k3 s).2 hd).1, k4 s ((k3 s).2 hd).2]; rfl
  by_cases hl : L s = []
  · refine ⟨V s, wr.heap.size, hv, ?_, k7.size⟩
    rw [hl, k4 s hl]
    exact que_nil _ _
  · exact ⟨V s, Bk s, hv, (k5 s hl).1, (k5 s hl).2.1⟩

theorem Abv.look_ok (h : Abv W wr bm D L mx) {s : ByteArray} (hs : s.size ≤ maxLen) :
    ∃ v, (D s → (Instr.lookup 30 (.map (some bm)) (.string s) true).run Try.prog wr = .ok (.tuple #[v, .bool true]) wr) ∧ (¬ D s → (Instr.lookup 30 (.map (some bm)) (.string s) true).run Try.prog wr = .ok (.tuple #[v, .bool false]) wr) := by
  obtain ⟨m, f, Bk, V, k1, k2, k3, k4, k5, k6, k7, k8⟩ := h
  have := k2.look_ok Try.underlying9 Try.underlying30 (zero23 wr) hs
  refine ⟨V s, fun hd => ?_, fun hd => ?_⟩
  · rw [this, (k3 s).1 hd]; rfl
  · rw [this, ((k3 s).2 hd).1, k4 s ((k3 s).2 hd).2]; rfl

/-- 'above[s] = nil' where there was no entry. -/
theorem Abv.decl (h : Abv W wr bm D L mx) {s : ByteArray} (hs : s.size ≤ maxLen) (hd : ¬ D s) (hmx : mx ≤ 1048576) :
    ∃ w', (Instr.mapUpdate 30 (.map (some bm)) (.string s) (.slice none 0 0)).run Try.prog wr = .ok () w' ∧ Abv W w' bm (fun x => D x ∨ x = s) L (mx + 1) := by
  obtain ⟨m, f, Bk, V, k1, k2, k3, k4, k5, k6, k7, k8⟩ := h
  obtain ⟨w', hrun, hmap, hturn⟩ := k2.store Try.underlying9 Try.underlying30 (by unfold maxLen; omega) (s := s) hs (.slice none 0 0)
  have hgr := hturn.grown
  have hL := ((k3 s).2 hd).2
  rw [((k3 s).2 hd).1] at hmap
  refine ⟨w', hrun, m + 1, _, Bk, V, by omega, hmap, fun x => ⟨fun hx => ?_, fun hx => ?_⟩, k4, fun x hx => ⟨(k5 x hx).1.grown hgr (fun e => (k5 x hx).2.2 (by simpa using e)), (k5 x hx).2⟩, k6, k7.grown hgr k7.size (fun i hi => by cases hi; exact k8), k8⟩
  · by_cases e : x = s
    · subst e; simp [k4 x hL]
    · simp only [e, if_false]
      exact (k3 x).1 (hx.resolve_right e)
  · have e : ¬ x = s := fun e => hx (.inr e)
    simp only [e, if_false]
    exact (k3 x).2 (fun h => hx (.inl h))

/-- 'above[s] = append(above[s], x)', in the world behind the one-element slice. -/
theorem Abv.step (h : Abv W wr bm D L mx) {s x : ByteArray} (hs : s.size ≤ maxLen) (hmx : mx ≤ 1048576) (hlen : (L s).length ≤ 1048576) :
    ∃ v0 v' w1 w2, (∀ w', Below wr.heap.size wr w' → (Instr.lookup 30 (.map (some bm)) (.string s) false).run Try.prog w' = .ok v0 w') ∧
      (Builtin.append_ #[23, 23] 23 #[v0, .slice (some ⟨wr.heap.size, 0, none⟩) 1 1]).run Try.prog (wr.drew.alloc (.cells #[.string x] 9)) = .ok v' w1 ∧
      (Instr.mapUpdate 30 (.map (some bm)) (.string s) v').run Try.prog w1 = .ok () w2 ∧
      Abv W w2 bm (fun y => D y ∨ y = s) (fun y => if y = s then L y ++ [x] else L y) (mx + 1) := by
  obtain ⟨m, f, Bk, V, k1, k2, k3, k4, k5, k6, k7, k8⟩ := h
  have hv : ∀ w', Below wr.heap.size wr w' → (Instr.lookup 30 (.map (some bm)) (.string s) false).run Try.prog w' = .ok (V s) w' := by
    intro w' hb
    have := (k2.of_block (hb.block _ k2.lt)).look Try.underlying9 Try.underlying30 (zero23 w') hs
    rw [this]
    by_cases hd : D s
    · rw [(k3 s).1 hd]; rfl
    · rw [((k3 s).2 hd).1, k4 s ((k3 s).2 hd).2]; rfl
  -- the world at the append
  have hU : Below wr.heap.size wr (wr.drew.alloc (.cells #[.string x] 9)) := (Below.refl _ _).drew.alloc (Nat.le_refl _) _
  generalize hW : wr.drew.alloc (.cells #[.string x] 9) = U at hU
  have hUs : U.heap.size = wr.heap.size + 1 := by rw [← hW]; simp
  have hcell : U.cell? ⟨wr.heap.size, 0, none⟩ = some (.string x) := by rw [← hW]; exact lit_cell wr.drew x
  -- the block that is appended to
  obtain ⟨b0, hq, hb0⟩ : ∃ b0, Que U b0 (V s) (L s) ∧ ((L s ≠ [] ∧ b0 = Bk s) ∨ (L s = [] ∧ b0 = U.heap.size)) := by
    by_cases hl : L s = []
    · exact ⟨U.heap.size, by rw [hl, k4 s hl]; exact que_nil _ _, .inr ⟨hl, rfl⟩⟩
    · exact ⟨Bk s, (k5 s hl).1.other hU.size (fun hl => hU.block _ hl), .inl ⟨hl, rfl⟩⟩
  obtain ⟨v', w1, b', hrun, hq', hb', hg1⟩ := hq.append 23 wr.heap.size 1 x hcell (by omega)
  have hbm : bm < wr.heap.size := k2.lt
  have hb0bm : b0 ≠ bm := by
    rcases hb0 with ⟨hl, rfl⟩ | ⟨_, rfl⟩
    · exact (k5 s hl).2.2
    · omega
  have hbWn : W.heap.size ≤ b0 := by
    rcases hb0 with ⟨hl, rfl⟩ | ⟨_, rfl⟩
    · exact (k5 s hl).2.1
    · have := k7.size; omega
  have hmap1 : strMap Try.prog 9 w1 bm m f := (k2.of_block (hU.block _ hbm)).of_block (hg1.block _ (by omega) (fun e => hb0bm (by simpa using e.symm)))
  obtain ⟨w2, hrun2, hmap2, hturn⟩ := hmap1.store Try.underlying9 Try.underlying30 (by unfold maxLen; omega) (s := s) hs v'
  have hg2 := hturn.grown
  have hb'W : W.heap.size ≤ b' := by
    rcases hb' with rfl | hb'
    · exact hbWn
    · have := k7.size; omega
  have hb'bm : b' ≠ bm := by
    rcases hb' with rfl | hb'
    · exact hb0bm
    · omega
  -- b' is no other name's block
  have hfar : ∀ y, y ≠ s → L y ≠ [] → Bk y ≠ b' ∧ Bk y ≠ b0 := by
    intro y hy hl
    obtain ⟨_, _, _, _, _, hlt, _⟩ := (k5 y hl).1.spell hl
    have h0 : Bk y ≠ b0 := by
      rcases hb0 with ⟨hl0, rfl⟩ | ⟨_, rfl⟩
      · exact fun e => hy (k6 y s hl hl0 e)
      · omega
    rcases hb' with rfl | hb'
    · exact ⟨h0, h0⟩
    · exact ⟨by omega, h0⟩
  refine ⟨V s, v', w1, w2, hv, hrun, hrun2, _, _, fun y => if y = s then b' else Bk y, fun y => if y = s then v' else V y, ?_, hmap2, fun y => ⟨fun hy => ?_, fun hy => ?_⟩, fun y hy => ?_, fun y hy => ?_, fun y z hy hz e => ?_, ?_, k8⟩
  · split <;> omega
  · by_cases e : y = s
    · subst e; simp
    · simp only [e, if_false]
      exact (k3 y).1 (hy.resolve_right e)
  · have e : ¬ y = s := fun e => hy (.inr e)
    simp only [e, if_false]
    exact (k3 y).2 (fun h => hy (.inl h))
  · by_cases e : y = s
    · simp [e] at hy
    · simp only [e, if_false] at hy ⊢
      exact k4 y hy
  · by_cases e : y = s
    · subst e
      simp only [if_true]
      exact ⟨hq'.grown hg2 (fun e => hb'bm (by simpa using e)), hb'W, hb'bm⟩
    · simp only [e, if_false] at hy ⊢
      obtain ⟨q1, q2, q3⟩ := k5 y hy
      exact ⟨((q1.other hU.size (fun hl => hU.block _ hl)).grown hg1 (fun e' => (hfar y e hy).2 (by simpa using e'))).grown hg2 (fun e' => q3 (by simpa using e')), q2, q3⟩
  · by_cases e1 : y = s
    · by_cases e2 : z = s
      · rw [e1, e2]
      · simp only [e1, e2, if_true, if_false] at e hz
        exact absurd e.symm (hfar z e2 hz).1
    · by_cases e2 : z = s
      · simp only [e1, e2, if_true, if_false] at e hy
        exact absurd e (hfar y e1 hy).1
      · simp only [e1, e2, if_false] at e hy hz
        exact k6 y z hy hz e
  · have hb1 : Below W.heap.size W U := k7.trans (hU.mono k7.size)
    exact (hb1.grown hg1 hb1.size (fun i hi => by cases hi; exact hbWn)).grown hg2 (Nat.le_trans hb1.size hg1.size) (fun i hi => by cases hi; exact k8)
end

/-- What the links say. -/
def adj (F T : Nat → ByteArray) (k : Nat) (s : ByteArray) : List ByteArray := ((List.range k).filter fun i => decide (F i = s)).map T

theorem adj_succ (F T : Nat → ByteArray) (k : Nat) (s : ByteArray) : adj F T (k + 1) s = if s = F k then adj F T k s ++ [T k] else adj F T k s := by
  unfold adj
  rw [List.range_succ, List.filter_append, List.map_append]
  by_cases e : s = F k
  · subst e; simp
  · have e' : ¬ F k = s := fun h => e h.symm
    simp [e, e']

theorem adj_length (F T : Nat → ByteArray) (k : Nat) (s : ByteArray) : (adj F T k s).length ≤ k := by
  unfold adj
  rw [List.length_map]
  exact Nat.le_trans (List.length_filter_le _ _) (by simp)
end Go.Proofs.Qxb6600574a
