/-
  chain (17): what its loops keep.
-/
import Derived.Test.Qxb6600574aBuild
import Derived.Test.Qxb6600574aRev
import Derived.Test.Qxb6600574aGraph
namespace Go.Proofs.Qxb6600574a
open Go.RowKit

/-- The names p, .., n - 1. -/
def names (g : Nat → Nd) (p n : Nat) : List ByteArray := (List.range' p (n - p)).map fun i => (g i).s

theorem names_cons {g : Nat → Nd} {p n : Nat} (h : p < n) : names g p n = (g p).s :: names g (p + 1) n := by
  unfold names
  rw [show n - p = (n - (p + 1)) + 1 by omega, List.range'_succ]
  simp

theorem names_nil {g : Nat → Nd} {p n : Nat} (h : n ≤ p) : names g p n = [] := by
  unfold names
  rw [show n - p = 0 by omega]
  rfl

theorem names_length (g : Nat → Nd) (p n : Nat) : (names g p n).length = n - p := by simp [names]

theorem names_snoc {g g' : Nat → Nd} {p n : Nat} (h : p ≤ n) (hg : ∀ i, i < n → g' i = g i) : names g' p (n + 1) = names g p n ++ [(g' n).s] := by
  unfold names
  rw [show n + 1 - p = (n - p) + 1 by omega, List.range'_concat]
  simp only [List.map_append, List.map_cons, List.map_nil, Nat.one_mul]
  rw [show p + (n - p) = n by omega]
  congr 1
  refine List.map_congr_left fun i hi => ?_
  rw [List.mem_range'_1] at hi
  rw [hg i (by omega)]

def parName (g : Nat → Nd) (i : Nat) : ByteArray := if i = 0 then ⟨#[]⟩ else (g (g i).par).s

/-- The map 'from' (block fb): n names, each with the name below it. -/
def Fmap (wr : World) (fb : Nat) (g : Nat → Nd) (n : Nat) : Prop :=
  ∃ f, strMap Try.prog 9 wr fb n f ∧ (∀ i, i < n → f (g i).s = some (.string (parName g i))) ∧ ∀ s, (∀ i, i < n → (g i).s ≠ s) → f s = none

/-- The map and the queue (the names p .. m - 1), in wr; what was in W is as it was. -/
structure Chn (W wr : World) (fb : Nat) (g : Nat → Nd) (n m p : Nat) (qv : Value) : Prop where
  fm : Fmap wr fb g n
  que : ∃ qb, Que wr qb qv (names g p m) ∧ W.heap.size ≤ qb ∧ qb ≠ fb
  big : ∀ i, i < n → (g i).s.size ≤ maxLen
  base : W.heap.size ≤ fb
  below : Below W.heap.size W wr

theorem Fmap.of_block {w w' : World} {fb n : Nat} {g : Nat → Nd} (h : Fmap w fb g n) (e : w'.heap[fb]? = w.heap[fb]?) : Fmap w' fb g n := by
  obtain ⟨f, h1, h2⟩ := h
  exact ⟨f, h1.of_block e, h2⟩

theorem Fmap.lt {w : World} {fb n : Nat} {g : Nat → Nd} (h : Fmap w fb g n) : fb < w.heap.size := by
  obtain ⟨f, h1, _⟩ := h
  exact h1.lt

theorem Fmap.alloc {w : World} {fb n : Nat} {g : Nat → Nd} (h : Fmap w fb g n) (o : Obj) : Fmap (w.alloc o) fb g n := h.of_block (Below.heap_alloc w o fb h.lt)
theorem Fmap.grown {w w' : World} {fb n b : Nat} {g : Nat → Nd} (h : Fmap w fb g n) (hg : w.grownBy w' (some b)) (hne : b ≠ fb) : Fmap w' fb g n := h.of_block (hg.block _ h.lt (fun e => hne (by simpa using e.symm)))

/-- 'from[name]' on the way back. -/
theorem Fmap.look {w : World} {fb n : Nat} {g : Nat → Nd} (h : Fmap w fb g n) {a : Nat} (ha : a < n) (ha0 : 0 < a) (hs : (g a).s.size ≤ maxLen) :
    (Instr.lookup 46 (.map (some fb)) (.string (g a).s) false).run Try.prog w = .ok (.string (g (g a).par).s) w := by
  obtain ⟨f, h1, h2, _⟩ := h
  rw [h1.look Try.underlying9 Try.underlying46 (zero9 w) hs, h2 a ha]
  simp only [parName, Option.getD_some]
  rw [if_neg (by omega)]

/-- '_, seen := from[x]'. -/
theorem Fmap.seen {w : World} {fb n : Nat} {g : Nat → Nd} (h : Fmap w fb g n) {j : Nat} (hj : j < n) (hs : (g j).s.size ≤ maxLen) :
    ∃ v, (Instr.lookup 46 (.map (some fb)) (.string (g j).s) true).run Try.prog w = .ok (.tuple #[v, .bool true]) w := by
  obtain ⟨f, h1, h2, _⟩ := h
  refine ⟨.string (parName g j), ?_⟩
  rw [h1.look_ok Try.underlying9 Try.underlying46 (zero9 w) hs, h2 j hj]
  rfl

theorem Fmap.unseen {w : World} {fb n : Nat} {g : Nat → Nd} (h : Fmap w fb g n) {x : ByteArray} (hx : ∀ j, j < n → (g j).s ≠ x) (hs : x.size ≤ maxLen) :
    ∃ v, (Instr.lookup 46 (.map (some fb)) (.string x) true).run Try.prog w = .ok (.tuple #[v, .bool false]) w := by
  obtain ⟨f, h1, _, h3⟩ := h
  refine ⟨.string ⟨#[]⟩, ?_⟩
  rw [h1.look_ok Try.underlying9 Try.underlying46 (zero9 w) hs, h3 x hx]
  rfl

/-- The new node. -/
def ext (g : Nat → Nd) (n : Nat) (d : Nd) (i : Nat) : Nd := if i = n then d else g i
theorem ext_old {g : Nat → Nd} {n : Nat} {d : Nd} {i : Nat} (h : i < n) : ext g n d i = g i := if_neg (by omega)
theorem ext_new (g : Nat → Nd) (n : Nat) (d : Nd) : ext g n d n = d := if_pos rfl

/-- 'from[next] = name'. -/
theorem Chn.put {W wr : World} {fb n p pp : Nat} {g : Nat → Nd} {qv : Value} (h : Chn W wr fb g n n p qv) (tree : ∀ j, 0 < j → j < n → (g j).par < j) (hpos : 0 < n) (hn : n ≤ 1048576) {x : ByteArray} (hx : ∀ j, j < n → (g j).s ≠ x) (hs : x.size ≤ maxLen) (hpp : pp < n) (e l : Nat) :
    ∃ w1, (Instr.mapUpdate 46 (.map (some fb)) (.string x) (.string (g pp).s)).run Try.prog wr = .ok () w1 ∧ Chn W w1 fb (ext g n ⟨x, pp, e, l⟩) (n + 1) n p qv := by
  obtain ⟨⟨f, h1, h2, h3⟩, ⟨qb, q1, q2, q3⟩, hbig, hbase, hbel⟩ := h
  obtain ⟨w1, hrun, hmap, hturn⟩ := h1.store Try.underlying9 Try.underlying46 (by unfold maxLen; omega) (s := x) hs (.string (g pp).s)
  have hg := hturn.grown
  rw [h3 x hx] at hmap
  refine ⟨w1, hrun, ⟨_, hmap, fun i hi => ?_, fun s hs => ?_⟩, ⟨qb, ?_, q2, q3⟩, fun i hi => ?_, hbase, hbel.grown hg hbel.size (fun i hi => by cases hi; exact hbase)⟩
  · by_cases e1 : i = n
    · subst e1
      rw [ext_new]
      simp only [if_true]
      unfold parName
      rw [if_neg (by omega), ext_new]
      simp only [ext_old hpp]
    · rw [ext_old (by omega)]
      have : ¬ (g i).s = x := hx i (by omega)
      simp only [this, if_false]
      rw [h2 i (by omega)]
      unfold parName
      by_cases e0 : i = 0
      · rw [if_pos e0, if_pos e0]
      · rw [if_neg e0, if_neg e0, ext_old (i := i) (by omega), ext_old (i := (g i).par) (by have := tree i (by omega) (by omega); omega)]
  · have e1 : ¬ s = x := fun e1 => hs n (by omega) (by rw [ext_new]; exact e1.symm)
    simp only [e1, if_false]
    exact h3 s (fun i hi => by have := hs i (by omega); rwa [ext_old hi] at this)
  · have : names (ext g n ⟨x, pp, e, l⟩) p n = names g p n := by
      unfold names
      refine List.map_congr_left fun i hi => ?_
      rw [List.mem_range'_1] at hi
      rw [ext_old (by omega)]
    rw [this]
    exact q1.grown hg (fun e => q3 (by simpa using e))
  · by_cases e1 : i = n
    · subst e1; rw [ext_new]; exact hs
    · rw [ext_old (by omega)]; exact hbig i (by omega)

/-- The start. -/
theorem chn_start (W : World) (lo : ByteArray) (hs : lo.size ≤ maxLen) :
    ∃ W1, (Instr.mapUpdate 46 (.map (some W.heap.size)) (.string lo) (.string ⟨#[]⟩)).run Try.prog (W.alloc (.map #[] 0)) = .ok () W1 ∧
      Chn W (W1.alloc (.cells #[.string lo] 9)) W.heap.size (fun _ => ⟨lo, 0, 0, 0⟩) 1 1 0 (.slice (some ⟨W1.heap.size, 0, none⟩) 1 1) := by
  have h0 := strMap_made Try.prog 9 W
  obtain ⟨W1, hrun, hmap, hturn⟩ := h0.store Try.underlying9 Try.underlying46 (by unfold maxLen; omega) (s := lo) hs (.string ⟨#[]⟩)
  have hg := hturn.grown
  have hb0 : Below W.heap.size W (W.alloc (.map #[] 0)) := (Below.refl _ _).alloc (Nat.le_refl _) _
  have hb1 := hb0.grown hg hb0.size (fun i hi => by cases hi; exact Nat.le_refl _)
  have hsz : W.heap.size + 1 ≤ W1.heap.size := by have := hg.size; simpa using this
  refine ⟨W1, hrun, ⟨_, hmap.of_block (Below.heap_alloc _ _ _ hmap.lt), fun i hi => ?_, fun s hs => ?_⟩, ⟨W1.heap.size, ?_, by omega, by omega⟩, fun i hi => hs, Nat.le_refl _, hb1.alloc hb1.size _⟩
  · obtain rfl : i = 0 := by omega
    simp [parName]
  · have : ¬ s = lo := fun e => hs 0 (by omega) e.symm
    simp [this]
  · have : names (fun _ => (⟨lo, 0, 0, 0⟩ : Nd)) 0 1 = [lo] := by simp [names]
    rw [this]
    exact que_lit W1 lo

theorem Que.tail {w : World} {b off cap : Nat} {x : ByteArray} {xs : List ByteArray} (h : Que w b (.slice (some ⟨b, off, none⟩) (xs.length + 1) cap) (x :: xs)) (A : Option Addr)
    (hA : A = if cap = 1 then some ⟨b, off, none⟩ else some ⟨b, off + 1, none⟩) : Que w b (.slice A xs.length (cap - 1)) xs := by
  obtain ⟨ao, off', cap', hv, h1, h2, h3, h4, h5⟩ := h
  simp only [Value.slice.injEq] at hv
  obtain ⟨rfl, _, rfl⟩ := hv
  simp only [List.length_cons] at h1
  obtain ⟨he, hb⟩ := h3 (by omega)
  simp only [Option.some.injEq, Addr.mk.injEq, true_and, and_true] at he
  subst he
  refine ⟨A, off + 1, cap - 1, rfl, by omega, by omega, fun hc => ⟨by rw [hA, if_neg (by omega)], hb⟩, fun j u hu => ?_, fun j hj => ?_⟩
  · have := h4 (j + 1) u (by simpa using hu)
    rw [show off + 1 + j = off + (j + 1) by omega]
    exact this
  · rw [show off + 1 + j = off + (j + 1) by omega]
    exact h5 (j + 1) (by omega)

def Ans (G : ByteArray → List ByteArray) (δ : Nat → ByteArray → Bool) (up lo : ByteArray) (d : Prop) (W : World) (e : Ending) (w' : World) : Prop :=
  Below W.heap.size W w' ∧ ((e = .returned (.slice none 0 0) ∧ (¬ d ∨ ∀ k, ¬ Wk G up k lo)) ∨ ∃ v b r, e = .returned v ∧ d ∧ Dst G up r lo ∧ Que w' b v (lo :: gr G δ r lo))
end Go.Proofs.Qxb6600574a
