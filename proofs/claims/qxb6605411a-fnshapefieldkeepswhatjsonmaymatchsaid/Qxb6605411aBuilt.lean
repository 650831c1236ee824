/-
  FnShapeFieldKeepsWhatJSONMayMatch: what the loop that fills the two maps and the row of shapes has made.
-/
import Derived.Test.Qxb6605411aShapeParts
namespace Go.Proofs.Qxb6605411a
open Go.RowKit

def shp (Pt : Nat → Nat) (k j : Nat) : Value := if j < k then .pointer (some ⟨Pt j, 0, none⟩) else .pointer none

/-- Block B is the row of shapes (k1 made), B + 1 the map of fields (after k2 names), B + 1 + 1 that of the folded names (after k3); B: the heap's size of W. -/
structure Blt (W wr : World) (N k1 k2 k3 : Nat) (S : Nat → ByteArray) (Pt : Nat → Nat) : Prop where
  row : wr.rowIs W.heap.size 38 N (shp Pt k1)
  fm : ∃ m, m ≤ k2 ∧ strMap Try.prog 9 wr (W.heap.size + 1) m (ff S Pt k2)
  gm : ∃ m, m ≤ k3 ∧ strMap Try.prog 9 wr (W.heap.size + 1 + 1) m (gg S k3)
  below : Below W.heap.size W wr

theorem blt_start (W : World) (N : Nat) (S : Nat → ByteArray) :
    Blt W (((W.alloc (.cells (madeCells #[.pointer none] N) 38)).alloc (.map #[] 0)).alloc (.map #[] 0)) N 0 0 0 S (fun _ => 0) := by
  have e1 : (W.alloc (.cells (madeCells #[.pointer none] N) 38)).heap.size = W.heap.size + 1 := by simp
  have e2 : ((W.alloc (.cells (madeCells #[.pointer none] N) 38)).alloc (.map #[] 0)).heap.size = W.heap.size + 1 + 1 := by simp
  refine ⟨?_, ⟨0, Nat.le_refl _, ?_⟩, ⟨0, Nat.le_refl _, ?_⟩, ?_⟩
  · exact ((((World.rowIs_made W (.pointer none) N 38).congr (fun i _ => by simp [shp])).alloc _).alloc _)
  · have := strMap_made Try.prog 9 (W.alloc (.cells (madeCells #[.pointer none] N) 38))
    rw [e1] at this
    exact (this.of_block (Below.heap_alloc _ _ _ (by rw [e2]; omega))).congr (fun s => by simp [ff, firstIdx])
  · have := strMap_made Try.prog 9 ((W.alloc (.cells (madeCells #[.pointer none] N) 38)).alloc (.map #[] 0))
    rw [e2] at this
    exact this.congr (fun s => by simp [gg, gl, kin])
  · exact (((Below.refl _ _).alloc (Nat.le_refl _) _).alloc (by simp) _).alloc (by simp; omega) _

theorem Blt.size {W wr : World} {N k1 k2 k3 : Nat} {S : Nat → ByteArray} {Pt : Nat → Nat} (h : Blt W wr N k1 k2 k3 S Pt) : W.heap.size + 1 + 1 < wr.heap.size := by
  obtain ⟨m, _, hm⟩ := h.gm
  exact hm.lt

theorem Blt.later {W wr w' : World} {N k1 k2 k3 : Nat} {S : Nat → ByteArray} {Pt : Nat → Nat} (h : Blt W wr N k1 k2 k3 S Pt) (hb : Below wr.heap.size wr w') : Blt W w' N k1 k2 k3 S Pt := by
  have hz := h.size
  obtain ⟨hr, ⟨m, hm, hf⟩, ⟨m', hm', hg⟩, hbl⟩ := h
  exact ⟨hr.of_block (hb.block _ (by omega)), ⟨m, hm, hf.of_block (hb.block _ (by omega))⟩, ⟨m', hm', hg.of_block (hb.block _ (by omega))⟩, hbl.trans (hb.mono (by omega))⟩

theorem Blt.drew {W wr : World} {N k1 k2 k3 : Nat} {S : Nat → ByteArray} {Pt : Nat → Nat} (h : Blt W wr N k1 k2 k3 S Pt) : Blt W wr.drew N k1 k2 k3 S Pt := h.later (Below.refl _ _).drew

/-- 'shapes[k] = &Shape{}'. -/
theorem Blt.shape {W wr : World} {N k : Nat} {S : Nat → ByteArray} {Pt : Nat → Nat} (h : Blt W wr N k k k S Pt) (o : Obj) :
    Blt W ((wr.alloc o).setCell ⟨W.heap.size, k, none⟩ (.pointer (some ⟨wr.heap.size, 0, none⟩))) N (k + 1) k k S (fun i => if i = k then wr.heap.size else Pt i) := by
  have hz := h.size
  have h1 := h.later ((Below.refl wr.heap.size wr).alloc (Nat.le_refl _) o)
  obtain ⟨hr, ⟨m, hm, hf⟩, ⟨m', hm', hg⟩, hbl⟩ := h1
  refine ⟨(hr.set k _).congr (fun j _ => ?_), ⟨m, hm, (hf.of_block (Below.heap_setCell _ _ _ _ (by show W.heap.size + 1 ≠ W.heap.size; omega))).congr (fun s => ?_)⟩, ⟨m', hm', hg.of_block (Below.heap_setCell _ _ _ _ (by show W.heap.size + 1 + 1 ≠ W.heap.size; omega))⟩, hbl.setCell (p := ⟨W.heap.size, k, none⟩) (Nat.le_refl _) _⟩
  · unfold shp
    by_cases e : j = k
    · subst e; simp
    · simp only [e, if_false]
      by_cases hj : j < k
      · rw [if_pos hj, if_pos (by omega)]
      · rw [if_neg hj, if_neg (by omega)]
  · unfold ff
    cases hs : firstIdx S k s with
    | none => rfl
    | some j =>
      have := (firstIdx_some hs).1
      simp
      omega

/-- The name was there. -/
theorem Blt.old {W wr : World} {N k j : Nat} {S : Nat → ByteArray} {Pt : Nat → Nat} (b : Nat) (h : Blt W wr N (k + 1) k k S (fun i => if i = k then b else Pt i)) (hj : firstIdx S k (S k) = some j) :
    Blt W wr N (k + 1) (k + 1) k S (fun i => if i = k then b else Pt i) := by
  obtain ⟨hr, ⟨m, hm, hf⟩, hg, hbl⟩ := h
  refine ⟨hr, ⟨m, by omega, hf.congr (fun s => ?_)⟩, hg, hbl⟩
  have := ff_hit (Pt := fun i => if i = k then b else Pt i) hj b s
  rw [← this]
  congr 1
  funext i
  by_cases e : i = k <;> simp [e]

/-- The name is new: 'fields[names[k]] = shapes[k]'. -/
theorem Blt.put {W wr : World} {N k : Nat} {S : Nat → ByteArray} {Pt : Nat → Nat} (b : Nat) (h : Blt W wr N (k + 1) k k S (fun i => if i = k then b else Pt i)) (hj : firstIdx S k (S k) = none) (hs : (S k).size ≤ 1048576) (hk : k ≤ 1048576) :
    ∃ w', (Instr.mapUpdate 36 (.map (some (W.heap.size + 1))) (.string (S k)) (.pointer (some ⟨b, 0, none⟩))).run Try.prog wr = .ok () w' ∧ Blt W w' N (k + 1) (k + 1) k S (fun i => if i = k then b else Pt i) := by
  have hz := h.size
  obtain ⟨hr, ⟨m, hm, hf⟩, ⟨m', hm', hg⟩, hbl⟩ := h
  obtain ⟨w', hrun, hmap, hturn⟩ := hf.store Try.underlying9 Try.underlying36 (by unfold maxLen; omega) (s := S k) (by unfold maxLen; omega) (.pointer (some ⟨b, 0, none⟩))
  have hgr := hturn.grown
  refine ⟨w', hrun, hr.of_block (hgr.block _ (by omega) (fun e => by simp at e)), ⟨m + 1, by omega, ?_⟩, ⟨m', hm', hg.of_block (hgr.block _ (by omega) (fun e => by simp at e))⟩, hbl.grown hgr (by omega) (fun i hi => by cases hi; omega)⟩
  have e0 : ff S (fun i => if i = k then b else Pt i) k (S k) = none := by unfold ff; rw [hj]; rfl
  rw [e0] at hmap
  refine hmap.congr (fun s => ?_)
  have := ff_new (Pt := fun i => if i = k then b else Pt i) hj b s
  rw [this]
  congr 1
  funext i
  by_cases e : i = k <;> simp [e]

/-- 'folded[zzLowerString(names[k])] = true'. -/
theorem Blt.fold {W wr : World} {N k : Nat} {S : Nat → ByteArray} {Pt : Nat → Nat} (h : Blt W wr N (k + 1) (k + 1) k S Pt) (hs : (S k).size ≤ 1048576) (hk : k ≤ 1048576) :
    ∃ w', (Instr.mapUpdate 37 (.map (some (W.heap.size + 1 + 1))) (.string (lowS (S k))) (.bool true)).run Try.prog wr = .ok () w' ∧ Blt W w' N (k + 1) (k + 1) (k + 1) S Pt := by
  have hz := h.size
  have hlz := lowS_size (S k)
  obtain ⟨hr, ⟨m, hm, hf⟩, ⟨m', hm', hg⟩, hbl⟩ := h
  obtain ⟨w', hrun, hmap, hturn⟩ := hg.store Try.underlying9 Try.underlying37 (by unfold maxLen; omega) (s := lowS (S k)) (by unfold maxLen; omega) (.bool true)
  have hgr := hturn.grown
  refine ⟨w', hrun, hr.of_block (hgr.block _ (by omega) (fun e => by simp at e; omega)), ⟨m, by omega, hf.of_block (hgr.block _ (by omega) (fun e => by simp at e))⟩, ⟨_, ?_, hmap.congr (fun s => gg_step S k s)⟩, hbl.grown hgr (by omega) (fun i hi => by cases hi; omega)⟩
  split <;> omega
end Go.Proofs.Qxb6605411a
