/-
  firstShortest (13): what its loops keep.
-/
import Derived.Test.Qxb6600574aBell
import Derived.Test.Qxb6600574aChainSt
namespace Go.Proofs.Qxb6600574a
open Go.RowKit

/-- Block ib is the map of the numbers: m names, nm j the name of number j. -/
def Ids (w : World) (ib m : Nat) (nm : Nat → ByteArray) : Prop :=
  ∃ f, strMap Try.prog 9 w ib m f ∧ (∀ j, j < m → f (nm j) = some (.int .i64 j)) ∧ ∀ s, (∀ j, j < m → nm j ≠ s) → f s = none

section
variable {w w' : World} {ib m : Nat} {nm : Nat → ByteArray}
theorem Ids.of_block (h : Ids w ib m nm) (e : w'.heap[ib]? = w.heap[ib]?) : Ids w' ib m nm := by
  obtain ⟨f, h1, h2⟩ := h
  exact ⟨f, h1.of_block e, h2⟩
theorem Ids.lt (h : Ids w ib m nm) : ib < w.heap.size := by
  obtain ⟨f, h1, _⟩ := h
  exact h1.lt
theorem Ids.len (h : Ids w ib m nm) (ty : TypeId) : (Builtin.len_ #[43] ty #[.map (some ib)]).run Try.prog w = .ok (.int .i64 m) w := by
  obtain ⟨f, h1, _⟩ := h
  exact h1.len Try.underlying43 ty
theorem Ids.inj (h : Ids w ib m nm) : ∀ i j, i < m → j < m → nm i = nm j → i = j := by
  obtain ⟨f, _, h2, _⟩ := h
  intro i j hi hj e
  have a := h2 i hi
  have b := h2 j hj
  rw [e, b] at a
  simp at a
  omega

def upd {α : Type} (f : Nat → α) (k : Nat) (v : α) (i : Nat) : α := if i = k then v else f i
theorem upd_same {α : Type} (f : Nat → α) (k : Nat) (v : α) : upd f k v k = v := if_pos rfl
theorem upd_ne {α : Type} (f : Nat → α) {k i : Nat} (v : α) (h : i ≠ k) : upd f k v i = f i := if_neg h

theorem intern_any (h : Ids w ib m nm) (s : ByteArray) (hs : s.size ≤ maxLen) (hm : m < 1048576) :
    Calls Try.prog 19 #[.map (some ib), .string s] w fun e w' => ∃ id m' nm', e = .returned (.int .i64 (id : Nat)) ∧ id < m' ∧ nm' id = s ∧ Ids w' ib m' nm' ∧ m ≤ m' ∧ m' ≤ m + 1 ∧ (∀ j, j < m → nm' j = nm j) ∧ w.grownBy w' (some ib) := by
  obtain ⟨f, h1, h2, h3⟩ := h
  by_cases hold : ∃ j, j < m ∧ nm j = s
  · obtain ⟨j, hj, rfl⟩ := hold
    refine (intern_old w ib m f h1 _ hs j (h2 j hj)).mono ?_
    rintro e w' ⟨rfl, rfl⟩
    exact ⟨j, m, nm, rfl, hj, rfl, ⟨f, h1, h2, h3⟩, Nat.le_refl _, by omega, fun _ _ => rfl, World.grownBy.refl _ _⟩
  · have hnew : ∀ j, j < m → nm j ≠ s := fun j hj e => hold ⟨j, hj, e⟩
    refine (intern_new w ib m f h1 s hs hm (h3 s hnew)).mono ?_
    rintro e w' ⟨rfl, hmap, hg⟩
    refine ⟨m, m + 1, upd nm m s, rfl, by omega, upd_same _ _ _, ⟨_, hmap, fun j hj => ?_, fun x hx => ?_⟩, by omega, Nat.le_refl _, fun j hj => upd_ne _ _ (by omega), hg⟩
    · by_cases e : j = m
      · subst e; rw [upd_same]; simp
      · rw [upd_ne _ _ e]
        have : ¬ nm j = s := hnew j (by omega)
        simp only [this, if_false]
        exact h2 j (by omega)
    · have e : ¬ x = s := fun e => hx m (by omega) (by rw [upd_same]; exact e.symm)
      simp only [e, if_false]
      exact h3 x (fun j hj => by have := hx j (by omega); rwa [upd_ne _ _ (by omega)] at this)
end

def rowI (k : Nat) (f : Nat → Nat) (i : Nat) : Value := if i < k then .int .i64 (f i : Nat) else .int .i64 0

/-- The numbers of the names (m), the ends of the first k links, k' of them on the far side. -/
structure St1 (W wr : World) (N k k' m : Nat) (F T nm : Nat → ByteArray) (fi ti : Nat → Nat) : Prop where
  ids : Ids wr W.heap.size m nm
  rf : wr.rowIs (W.heap.size + 1) 3 N (rowI k fi)
  rt : wr.rowIs (W.heap.size + 1 + 1) 3 N (rowI k' ti)
  f : ∀ i, i < k → fi i < m ∧ nm (fi i) = F i
  t : ∀ i, i < k' → ti i < m ∧ nm (ti i) = T i
  below : Below W.heap.size W wr

section
variable {W wr : World} {N k k' m : Nat} {F T nm : Nat → ByteArray} {fi ti : Nat → Nat}

theorem st1_start (W : World) (N : Nat) (F T : Nat → ByteArray) :
    St1 W (((W.alloc (.map #[] 0)).alloc (.cells (madeCells #[.int .i64 0] N) 3)).alloc (.cells (madeCells #[.int .i64 0] N) 3)) N 0 0 0 F T (fun _ => ⟨#[]⟩) (fun _ => 0) (fun _ => 0) := by
  have e1 : (W.alloc (.map #[] 0)).heap.size = W.heap.size + 1 := by simp
  have e2 : ((W.alloc (.map #[] 0)).alloc (.cells (madeCells #[.int .i64 0] N) 3)).heap.size = W.heap.size + 1 + 1 := by simp
  have h0 := strMap_made Try.prog 9 W
  have h1 := World.rowIs_made (W.alloc (.map #[] 0)) (.int .i64 0) N 3
  have h2 := World.rowIs_made ((W.alloc (.map #[] 0)).alloc (.cells (madeCells #[.int .i64 0] N) 3)) (.int .i64 0) N 3
  rw [e1] at h1
  rw [e2] at h2
  refine ⟨⟨_, (h0.of_block (Below.heap_alloc _ _ _ (by rw [e1]; omega))).of_block (Below.heap_alloc _ _ _ (by rw [e2]; omega)), fun j hj => by omega, fun _ _ => rfl⟩, (h1.alloc _).congr (fun i _ => by simp [rowI]), h2.congr (fun i _ => by simp [rowI]), fun i hi => by omega, fun i hi => by omega, ?_⟩
  exact (((Below.refl _ _).alloc (Nat.le_refl _) _).alloc (by simp) _).alloc (by simp; omega) _

/-- Behind internName. -/
theorem St1.intern {w1 : World} {m' : Nat} {nm' : Nat → ByteArray} (h : St1 W wr N k k' m F T nm fi ti) (hi : Ids w1 W.heap.size m' nm') (hm : m ≤ m') (hn : ∀ j, j < m → nm' j = nm j) (hg : wr.grownBy w1 (some W.heap.size)) : St1 W w1 N k k' m' F T nm' fi ti := by
  obtain ⟨_, rf, rt, f, t, bl⟩ := h
  refine ⟨hi, rf.of_block (hg.block _ rf.lt (by simp)), rt.of_block (hg.block _ rt.lt (by simp; omega)), fun i hi => ?_, fun i hi => ?_, bl.grown hg bl.size (fun i hi => by cases hi; exact Nat.le_refl _)⟩
  · obtain ⟨a, b⟩ := f i hi
    exact ⟨by omega, by rw [hn _ a]; exact b⟩
  · obtain ⟨a, b⟩ := t i hi
    exact ⟨by omega, by rw [hn _ a]; exact b⟩

theorem rowI_step {w : World} {B n k id : Nat} {f : Nat → Nat} (h : w.rowIs B 3 n (rowI k f)) : (w.setCell ⟨B, k, none⟩ (.int .i64 (id : Nat))).rowIs B 3 n (rowI (k + 1) (upd f k id)) := by
  refine (h.set k _).congr fun i _ => ?_
  unfold rowI
  by_cases e : i = k
  · subst e
    rw [upd_same]
    simp
  · rw [upd_ne _ _ e]
    simp only [e, if_false]
    by_cases h : i < k
    · rw [if_pos h, if_pos (by omega)]
    · rw [if_neg h, if_neg (by omega)]

/-- 'from[k] = id'. -/
theorem St1.storeF {id : Nat} (h : St1 W wr N k k m F T nm fi ti) (hid : id < m) (hnm : nm id = F k) : St1 W (wr.setCell ⟨W.heap.size + 1, k, none⟩ (.int .i64 (id : Nat))) N (k + 1) k m F T nm (upd fi k id) ti := by
  obtain ⟨ids, rf, rt, f, t, bl⟩ := h
  refine ⟨ids.of_block (Below.heap_setCell _ _ _ _ (by show W.heap.size ≠ W.heap.size + 1; omega)), rowI_step rf, rt.setOther (by show W.heap.size + 1 + 1 ≠ W.heap.size + 1; omega) _, fun i hi => ?_, t, bl.setCell (p := ⟨W.heap.size + 1, k, none⟩) (by show W.heap.size ≤ W.heap.size + 1; omega) _⟩
  by_cases e : i = k
  · subst e; rw [upd_same]; exact ⟨hid, hnm⟩
  · rw [upd_ne _ _ e]; exact f i (by omega)

/-- 'to[k] = id'. -/
theorem St1.storeT {id : Nat} (h : St1 W wr N (k + 1) k m F T nm fi ti) (hid : id < m) (hnm : nm id = T k) : St1 W (wr.setCell ⟨W.heap.size + 1 + 1, k, none⟩ (.int .i64 (id : Nat))) N (k + 1) (k + 1) m F T nm fi (upd ti k id) := by
  obtain ⟨ids, rf, rt, f, t, bl⟩ := h
  refine ⟨ids.of_block (Below.heap_setCell _ _ _ _ (by show W.heap.size ≠ W.heap.size + 1 + 1; omega)), rf.setOther (by show W.heap.size + 1 ≠ W.heap.size + 1 + 1; omega) _, rowI_step rt, f, fun i hi => ?_, bl.setCell (p := ⟨W.heap.size + 1 + 1, k, none⟩) (by show W.heap.size ≤ W.heap.size + 1 + 1; omega) _⟩
  by_cases e : i = k
  · subst e; rw [upd_same]; exact ⟨hid, hnm⟩
  · rw [upd_ne _ _ e]; exact t i (by omega)
end

/-- The rows from, to (N numbers) and dist (n distances, block bd). -/
structure St2 (W wr : World) (bd N n : Nat) (fi ti : Nat → Nat) (dist : Nat → Int) : Prop where
  rf : wr.rowIs (W.heap.size + 1) 3 N (fun i => .int .i64 (fi i : Nat))
  rt : wr.rowIs (W.heap.size + 1 + 1) 3 N (fun i => .int .i64 (ti i : Nat))
  rd : wr.rowIs bd 3 n (fun j => .int .i64 (dist j))
  far : W.heap.size + 1 + 1 < bd
  below : Below W.heap.size W wr

section
variable {W wr : World} {bd N n m : Nat} {F T nm : Nat → ByteArray} {fi ti : Nat → Nat} {dist : Nat → Int}

theorem St1.made (h : St1 W wr N N N m F T nm fi ti) : St2 W (wr.alloc (.cells (madeCells #[.int .i64 0] m) 3)) wr.heap.size N m fi ti (fun _ => 0) := by
  refine ⟨(h.rf.alloc _).congr (fun i hi => by simp [rowI, hi]), (h.rt.alloc _).congr (fun i hi => by simp [rowI, hi]), World.rowIs_made wr _ m 3, h.rt.lt, h.below.alloc h.below.size _⟩

/-- 'dist[j] = z'. -/
theorem St2.store (h : St2 W wr bd N n fi ti dist) (j : Nat) (z : Int) : St2 W (wr.setCell ⟨bd, j, none⟩ (.int .i64 z)) bd N n fi ti (upd dist j z) := by
  have hf := h.far
  refine ⟨h.rf.setOther (by show W.heap.size + 1 ≠ bd; omega) _, h.rt.setOther (by show W.heap.size + 1 + 1 ≠ bd; omega) _, (h.rd.set j _).congr (fun i _ => ?_), hf, h.below.setCell (p := ⟨bd, j, none⟩) (by show W.heap.size ≤ bd; omega) _⟩
  unfold upd
  by_cases e : i = j <;> simp [e]

theorem St2.congr {dist' : Nat → Int} (h : St2 W wr bd N n fi ti dist) (e : ∀ j, j < n → dist j = dist' j) : St2 W wr bd N n fi ti dist' :=
  ⟨h.rf, h.rt, h.rd.congr (fun i hi => by rw [e i hi]), h.far, h.below⟩

theorem St2.alloc (h : St2 W wr bd N n fi ti dist) (o : Obj) : St2 W (wr.alloc o) bd N n fi ti dist := ⟨h.rf.alloc o, h.rt.alloc o, h.rd.alloc o, h.far, h.below.alloc h.below.size o⟩

theorem St2.grown {w' : World} {ob : Nat} (h : St2 W wr bd N n fi ti dist) (hg : wr.grownBy w' (some ob)) (hob : bd < ob) : St2 W w' bd N n fi ti dist := by
  have hf := h.far
  exact ⟨h.rf.of_block (hg.block _ h.rf.lt (by simp; omega)), h.rt.of_block (hg.block _ h.rt.lt (by simp; omega)), h.rd.of_block (hg.block _ h.rd.lt (by simp; omega)), hf, h.below.grown hg h.below.size (fun i hi => by cases hi; omega)⟩
end

theorem make_names0 (d : Nat) (hd : d ≤ 1099511627776) (w : World) : (Instr.makeSlice 23 (.int .i64 0) (.int .i64 ((d : Int) + 1))).run Try.prog w = .ok (.slice (some ⟨w.heap.size, 0, none⟩) 0 (d + 1)) (w.alloc (.cells (madeCells #[.string ⟨#[]⟩] (d + 1)) 9)) := by
  obtain ⟨i, hi, hzz⟩ := Option.map_eq_some_iff.1 Try.info9
  simp only [Prod.mk.injEq] at hzz
  obtain ⟨hz, hs, hb⟩ := hzz
  have hr := run_make (P := Try.prog) w 23 9 i (.string ⟨#[]⟩) Try.underlying23 hi hz .i64 .i64 0 ((d : Int) + 1) (by omega) (by omega) (by rw [hb]; omega) (by omega)
  have e1 : ((d : Int) + 1).toNat = d + 1 := by omega
  rw [e1, hs, Nat.mul_one] at hr
  exact hr
end Go.Proofs.Qxb6600574a
