/-
  A MAP KEYED BY STRINGS THAT THE CALL ITSELF HAS MADE, TOLD BY A PLAIN FUNCTION: 'strMap P k w b m f': block b of w is a map of just m entries; at the key s it holds 'f s' (none: no entry). Elements of whatever type: the element's own value is kept (the reader 'heldR': a token). Over the kit's 'World.ownsMap'.
-/
import Derived.WalkKit
import Derived.ProofKit
import Derived.Deep.Quiet
import Derived.Maps.OwnSet
import Derived.Maps.OwnOps
namespace Go.Proofs.Qxb6600574a
open Go.RowKit Go.Maps Go.ChangeMaps Go.WideMaps Go.WideElems

def heldR (v : Value) : Option (DataW Value × List MemPlace) := some (.held v, [])

def strMap (P : Program) (k : TypeId) (w : World) (b m : Nat) (f : ByteArray → Option Value) : Prop :=
  ∃ D : DataW Value, w.ownsMap P k heldR b m D ∧ Maps.size D = m ∧
    ∀ s : ByteArray, s.size ≤ maxLen → Maps.has D (.string s.data.toList) = (f s).isSome ∧ ∀ z, D.atKey (.string s.data.toList) z = ((f s).map DataW.held).getD z

section
variable {P : Program} {k : TypeId} {w : World} {b m : Nat} {f : ByteArray → Option Value}

theorem ownsMap_exact {n : Nat} {D : DataW Value} (h : w.ownsMap P k heldR b n D) : w.ownsMap P k heldR b (Maps.size D) D := by
  obtain ⟨es, clock, hb, F, _, rfl⟩ := h
  exact ⟨es, clock, hb, F, by simp [Maps.size, length_sorted], rfl⟩

theorem strMap_made (P : Program) (k : TypeId) (w : World) : strMap P k (w.alloc (.map #[] 0)) w.heap.size 0 (fun _ => none) :=
  ⟨.map [], World.ownsMap_made w P k heldR, rfl, fun _ _ => ⟨rfl, fun _ => rfl⟩⟩

theorem strMap.lt (h : strMap P k w b m f) : b < w.heap.size := by
  obtain ⟨D, hD, _⟩ := h
  exact hD.lt

theorem strMap.of_block {w' : World} (h : strMap P k w b m f) (e : w'.heap[b]? = w.heap[b]?) : strMap P k w' b m f := by
  obtain ⟨D, ⟨es, clock, hb, F, hs, hD⟩, hm, hf⟩ := h
  exact ⟨D, ⟨es, clock, e.trans hb, F, hs, hD⟩, hm, hf⟩

theorem strMap.congr {g : ByteArray → Option Value} (h : strMap P k w b m f) (e : ∀ s, f s = g s) : strMap P k w b m g := by
  have : f = g := funext e
  rw [← this]; exact h

theorem strMap.drewN (h : strMap P k w b m f) (n : Nat) : strMap P k (w.drewN n) b m f := h.of_block rfl

/-- A map is no row. -/
theorem strMap.ne_cells (h : strMap P k w b m f) {g : Nat} {c : Array Value} {t : TypeId} {fz : Nat × Nat} (hg : w.heap[g]? = some (.cells c t fz)) : b ≠ g := by
  obtain ⟨D, ⟨es, clock, hb, _⟩, _⟩ := h
  intro e
  subst e
  rw [hb] at hg
  cases hg

/-- 'm[s]'. -/
theorem strMap.look {t e : TypeId} (h : strMap P k w b m f) (K : P.underlying k = some .string) (ht : P.underlying t = some (.map k e)) {z : Value} (hz : (zeroValue e).run P w = .ok z w) {s : ByteArray} (hs : s.size ≤ maxLen) :
    (Instr.lookup t (.map (some b)) (.string s) false).run P w = .ok ((f s).getD z) w := by
  obtain ⟨D, hD, _, hf⟩ := h
  obtain ⟨v, ps, hrun, hv⟩ := hD.lookup (string_keyed K) ht hz (zd := .held z) (zp := []) rfl (keyOf_string_mk K hs)
  rw [hrun]
  have e1 : DataW.held v = D.atKey (.string s.data.toList) (.held z) := by
    simp only [heldR, Option.some.injEq, Prod.mk.injEq] at hv
    exact hv.1
  rw [(hf s hs).2] at e1
  cases hfs : f s with
  | none => rw [hfs] at e1; simp at e1; rw [e1]; rfl
  | some u => rw [hfs] at e1; simp at e1; rw [e1]; rfl

/-- 'v, ok := m[s]'. -/
theorem strMap.look_ok {t e : TypeId} (h : strMap P k w b m f) (K : P.underlying k = some .string) (ht : P.underlying t = some (.map k e)) {z : Value} (hz : (zeroValue e).run P w = .ok z w) {s : ByteArray} (hs : s.size ≤ maxLen) :
    (Instr.lookup t (.map (some b)) (.string s) true).run P w = .ok (.tuple #[(f s).getD z, .bool (f s).isSome]) w := by
  obtain ⟨D, hD, _, hf⟩ := h
  obtain ⟨v, ps, hrun, hv⟩ := hD.look_ok (string_keyed K) ht hz (zd := .held z) (zp := []) rfl (keyOf_string_mk K hs)
  rw [hrun, (hf s hs).1]
  have e1 : DataW.held v = D.atKey (.string s.data.toList) (.held z) := by
    simp only [heldR, Option.some.injEq, Prod.mk.injEq] at hv
    exact hv.1
  rw [(hf s hs).2] at e1
  cases hfs : f s with
  | none => rw [hfs] at e1; simp at e1; rw [e1]; rfl
  | some u => rw [hfs] at e1; simp at e1; rw [e1]; rfl

/-- 'len(m)'. -/
theorem strMap.len {t e : TypeId} (h : strMap P k w b m f) (ht : P.underlying t = some (.map k e)) (ty : TypeId) : (Builtin.len_ #[t] ty #[.map (some b)]).run P w = .ok (.int .i64 m) w := by
  obtain ⟨D, hD, hm, _⟩ := h
  rw [hD.len ht ty, hm]

/-- 'm[s] = v'. -/
theorem strMap.store {t e : TypeId} (h : strMap P k w b m f) (K : P.underlying k = some .string) (ht : P.underlying t = some (.map k e)) (hn : m < maxLen) {s : ByteArray} (hs : s.size ≤ maxLen) (v : Value) :
    ∃ w', (Instr.mapUpdate t (.map (some b)) (.string s) v).run P w = .ok () w' ∧ strMap P k w' b (if (f s).isSome then m else m + 1) (fun x => if x = s then some v else f x) ∧ w.mapTurned w' b := by
  obtain ⟨D, hD, hm, hf⟩ := h
  obtain ⟨w', hrun, hD', hturn⟩ := hD.store (string_keyed K) ht hn (val := v) (d := .held v) (ps := []) (keyOf_string_mk K hs) rfl
  refine ⟨w', hrun, ⟨D.put (.string s.data.toList) (.held v), ?_, ?_, fun x hx => ?_⟩, hturn⟩
  · have hsz := Maps.size_put (k := .string s.data.toList) (hD.tidy (string_keyed K)) (.held v)
    rw [(hf s hs).1, hm] at hsz
    have := ownsMap_exact hD'
    rw [hsz] at this
    exact this
  · have hsz := Maps.size_put (k := .string s.data.toList) (hD.tidy (string_keyed K)) (.held v)
    rw [(hf s hs).1, hm] at hsz
    exact hsz
  · by_cases e : x = s
    · subst e
      simp only [if_pos]
      exact ⟨Maps.has_put_same (k := .string x.data.toList) hD.isMap trivial _, fun z => Maps.atKey_put_same (k := .string x.data.toList) hD.isMap trivial _ _⟩
    · simp only [e, if_false]
      have hne : (Lit.string x.data.toList) ≠ .string s.data.toList := fun h => e (by
        simp only [Lit.string.injEq] at h
        cases x; cases s
        simp at h
        rw [h])
      exact ⟨(Maps.has_put_other hne _).trans (hf x hx).1, fun z => (Maps.atKey_put_other hne _ _).trans ((hf x hx).2 z)⟩
end
end Go.Proofs.Qxb6600574a
