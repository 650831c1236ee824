/-
  A SLICE OF STRINGS THAT THE CALL ITSELF HAS MADE, TOLD BY THE LIST OF ITS ELEMENTS: 'Que w b v xs': the value v is a slice whose elements are xs; they lie in block b (where it has capacity), its spare cells too, none frozen. It may begin inside the block (behind a reslice). Over the kit's laws on append.
-/
import Derived.Test.Qxb6600574aRows
import Derived.Test.Qxb6600574aMaps
import Derived.WalkKit
import Derived.ArgAppend
import Derived.Below
import Derived.ChangeFn
import Derived.Deep.Onto
import Derived.Deep.OwnRows
import Derived.Deep.QuietTactic
import Derived.BigQuiet
import Derived.WalkLawsBesides
import Derived.WalkSmall
import Derived.WalkSpells
namespace Go.Proofs.Qxb6600574a
open Go.RowKit

theorem Try.info9 : (Try.prog.info? 9).map (fun i => (i.zero, i.size, i.bytes)) = some (some (.string ⟨#[]⟩), 1, 16) := by kernel_rfl
theorem Try.info3 : (Try.prog.info? 3).map (fun i => (i.zero, i.size, i.bytes)) = some (some (.int .i64 0), 1, 8) := by kernel_rfl

def Que (w : World) (b : Nat) (v : Value) (xs : List ByteArray) : Prop :=
  ∃ ao off cap, v = .slice ao xs.length cap ∧ xs.length ≤ cap ∧ cap ≤ maxLen ∧ (0 < cap → ao = some ⟨b, off, none⟩ ∧ b < w.heap.size) ∧
    (∀ j u, xs[j]? = some u → w.cell? ⟨b, off + j, none⟩ = some (.string u)) ∧ (∀ j, j < cap → (w.cell? ⟨b, off + j, none⟩).isSome = true ∧ w.frozen? ⟨b, off + j, none⟩ = false)

theorem que_nil (w : World) (b : Nat) : Que w b (.slice none 0 0) [] :=
  ⟨none, 0, 0, rfl, Nat.le_refl _, Nat.zero_le _, fun h => by omega, fun j u h => by simp at h, fun j h => by omega⟩

theorem que_lit (w : World) (x : ByteArray) : Que (w.alloc (.cells #[.string x] 9)) w.heap.size (.slice (some ⟨w.heap.size, 0, none⟩) 1 1) [x] := by
  have hr := World.rowIs_alloc w #[.string x] 9 (fun _ => .string x) (fun i hi => by
    have : i = 0 := by simp at hi; exact hi
    subst this
    rfl)
  refine ⟨_, 0, 1, rfl, Nat.le_refl _, by unfold maxLen; omega, fun _ => ⟨rfl, by simp⟩, fun j u h => ?_, fun j h => ?_⟩
  · have hj : j = 0 := by
      have := (List.getElem?_eq_some_iff.1 h).1
      simp at this
      exact this
    subst hj
    simp at h
    subst h
    exact hr.cell (i := 0) (by simp)
  · have hj : j = 0 := by omega
    subst hj
    have := hr.cell (i := 0) (by simp)
    rw [Nat.zero_add, this]
    exact ⟨rfl, hr.frozen 0⟩

theorem que_made (w : World) (n : Nat) (hn : n ≤ maxLen) : Que (w.alloc (.cells (madeCells #[.string ⟨#[]⟩] n) 9)) w.heap.size (.slice (some ⟨w.heap.size, 0, none⟩) 0 n) [] := by
  have hr := World.rowIs_made w (.string ⟨#[]⟩) n 9
  refine ⟨_, 0, n, rfl, Nat.zero_le _, hn, fun _ => ⟨rfl, by simp⟩, fun j u h => by simp at h, fun j h => ?_⟩
  rw [Nat.zero_add, hr.cell h]
  exact ⟨rfl, hr.frozen j⟩

section
variable {w w' : World} {b : Nat} {v : Value} {xs : List ByteArray}

theorem Que.of_block (h : Que w b v xs) (hs : w.heap.size ≤ w'.heap.size) (e : w'.heap[b]? = w.heap[b]?) : Que w' b v xs := by
  obtain ⟨ao, off, cap, hv, h1, h2, h3, h4, h5⟩ := h
  refine ⟨ao, off, cap, hv, h1, h2, fun h => ⟨(h3 h).1, by have := (h3 h).2; omega⟩, fun j u hu => ?_, fun j hj => ?_⟩
  · rw [World.cell?_of_block (w := w) e]; exact h4 j u hu
  · rw [World.cell?_of_block (w := w) e, World.frozen?_of_block (w := w) e]; exact h5 j hj

/-- A block that is not there yet: the slice has no capacity. -/
theorem Que.other (h : Que w b v xs) (hs : w.heap.size ≤ w'.heap.size) (e : b < w.heap.size → w'.heap[b]? = w.heap[b]?) : Que w' b v xs := by
  by_cases hb : b < w.heap.size
  · exact h.of_block hs (e hb)
  · obtain ⟨ao, off, cap, hv, h1, h2, h3, h4, h5⟩ := h
    have hc : cap = 0 := by
      rcases Nat.eq_zero_or_pos cap with h0 | h0
      · exact h0
      · exact absurd (h3 h0).2 hb
    subst hc
    have hx : xs = [] := List.eq_nil_of_length_eq_zero (by omega)
    subst hx
    exact ⟨ao, off, 0, hv, h1, h2, fun h => by omega, fun j u hu => by simp at hu, fun j hj => by omega⟩

theorem Que.alloc (h : Que w b v xs) (o : Obj) : Que (w.alloc o) b v xs := h.other (by simp) (fun hb => Below.heap_alloc w o b hb)
theorem Que.drewN (h : Que w b v xs) (n : Nat) : Que (w.drewN n) b v xs := h.of_block (Nat.le_refl _) rfl
theorem Que.grown (h : Que w b v xs) {row : Option Nat} (hg : w.grownBy w' row) (hne : some b ≠ row) : Que w' b v xs := h.other hg.size (fun hb => hg.block b hb hne)

/-- The value, spelt out. -/
theorem Que.spell (h : Que w b v xs) (hx : xs ≠ []) : ∃ off cap, v = .slice (some ⟨b, off, none⟩) xs.length cap ∧ xs.length ≤ cap ∧ cap ≤ maxLen ∧ b < w.heap.size ∧ ∀ j u, xs[j]? = some u → w.cell? ⟨b, off + j, none⟩ = some (.string u) := by
  obtain ⟨ao, off, cap, hv, h1, h2, h3, h4, h5⟩ := h
  have hp : 0 < xs.length := List.length_pos_iff.2 hx
  obtain ⟨rfl, hb⟩ := h3 (by omega)
  exact ⟨off, cap, hv, h1, h2, hb, h4⟩

theorem Que.len (h : Que w b v xs) : ∃ ao cap, v = .slice ao xs.length cap ∧ xs.length ≤ cap ∧ cap ≤ maxLen := by
  obtain ⟨ao, off, cap, hv, h1, h2, _⟩ := h
  exact ⟨ao, cap, hv, h1, h2⟩

theorem que_of_owns {base : Nat} {vs : List Value} {n : Nat} (h : w.ownsRow base 9 1 v n vs) (hvs : vs = xs.map Value.string) (hn : n = xs.length) (hpos : 0 < n) : ∃ b', Que w b' v xs ∧ base ≤ b' := by
  subst hn
  have hl := h.1
  rcases h.2 with ⟨_, h0⟩ | ⟨g, cap, cur, rfl, hb, hg, hle, hmax, hsz, htake⟩
  · omega
  · have hlt : g < w.heap.size := (Array.getElem?_eq_some_iff.1 hg).1
    refine ⟨g, ⟨_, 0, cap, rfl, hle, hmax, fun _ => ⟨rfl, hlt⟩, fun j u hu => ?_, fun j hj => ?_⟩, hb⟩
    · have e := h.cellAt j (by have := (List.getElem?_eq_some_iff.1 hu).1; omega)
      rw [Nat.zero_add, e, hvs, List.getElem?_map, hu]
      rfl
    · have hj' : j < cur.size := by omega
      simp [World.cell?, World.frozen?, hg, hj']

/-- ONE ELEMENT MORE. -/
theorem Que.append (h : Que w b v xs) (ty : TypeId) (g c : Nat) (x : ByteArray) (hx : w.cell? ⟨g, 0, none⟩ = some (.string x)) (hlen : xs.length + 1 ≤ 1099511627776) :
    ∃ v' w' b', (Builtin.append_ #[23, 23] ty #[v, .slice (some ⟨g, 0, none⟩) 1 c]).run Try.prog w = .ok v' w' ∧ Que w' b' v' (xs ++ [x]) ∧ (b' = b ∨ w.heap.size ≤ b') ∧ w.grownBy w' (some b) := by
  obtain ⟨i, hi, hzz⟩ := Option.map_eq_some_iff.1 Try.info9
  simp only [Prod.mk.injEq] at hzz
  obtain ⟨hz, hs, hb⟩ := hzz
  obtain ⟨ao, off, cap, rfl, h1, h2, h3, h4, h5⟩ := h
  have hnews : ∀ j u, ([Value.string x] : List Value)[j]? = some u → w.cell? ((⟨g, 0, none⟩ : Addr).add j) = some u := by
    intro j u hu
    have hj : j = 0 := by
      have := (List.getElem?_eq_some_iff.1 hu).1
      simp at this
      exact this
    subst hj
    simp at hu
    subst hu
    rw [Addr.add_lit]
    exact hx
  have hone : ∀ u ∈ ([Value.string x] : List Value), u.oneCell' = true := by
    intro u hu
    simp at hu
    subst hu
    rfl
  have hmap : (xs.map Value.string) ++ [Value.string x] = (xs ++ [x]).map Value.string := by simp
  have hlen1 : (xs ++ [x]).length = xs.length + 1 := by simp
  by_cases hr : xs.length + 1 ≤ cap
  · obtain ⟨rfl, hlt⟩ := h3 (by omega)
    have hsp := h5 xs.length (by omega)
    have hrun := run_append_room_cells (P := Try.prog) w 23 ty 9 i Try.underlying23 hi b off xs.length cap ⟨g, 0, none⟩ 1 c [.string x] (by rw [hs]; rfl) hnews hone hr
      (fun j hj => by
        have : j = 0 := by simp at hj; exact hj
        subst this
        rw [hs, Nat.mul_one, Nat.add_zero]; exact hsp.1)
      (fun j hj => by
        have : j = 0 := by simp at hj; exact hj
        subst this
        rw [hs, Nat.mul_one, Nat.add_zero]; exact hsp.2)
    rw [hs, Nat.mul_one] at hrun
    obtain ⟨u0, hu0⟩ := Option.isSome_iff_exists.1 hsp.1
    have hW : w.setCells b (off + xs.length) [.string x] = w.setCell ⟨b, off + xs.length, none⟩ (.string x) := rfl
    rw [hW] at hrun
    refine ⟨_, _, b, hrun, ⟨_, off, cap, by rw [hlen1], by omega, h2, fun _ => ⟨rfl, by simpa using hlt⟩, fun j u hu => ?_, fun j hj => ?_⟩, .inl rfl, ?_⟩
    · by_cases e : j = xs.length
      · subst e
        simp at hu
        subst hu
        exact World.cell?_setCell_same _ _ _ hu0
      · have hj : j < xs.length := by
          have := (List.getElem?_eq_some_iff.1 hu).1
          omega
        rw [List.getElem?_append_left hj] at hu
        rw [World.cell?_setCell_other _ _ _ _ (by simp)]
        exact h4 j u hu
    · refine ⟨?_, ?_⟩
      · by_cases e : j = xs.length
        · subst e
          rw [World.cell?_setCell_same _ _ _ hu0]; rfl
        · rw [World.cell?_setCell_other _ _ _ _ (by simp)]
          exact (h5 j hj).1
      · rw [World.frozen?_setCell]
        exact (h5 j hj).2
    · exact ⟨rfl, rfl, rfl, by simp, fun k hk hne => Below.heap_setCell _ _ _ _ (fun e => hne (by rw [e]))⟩
  · cases ao with
    | none =>
      have hc0 : cap = 0 := by
        rcases Nat.eq_zero_or_pos cap with h0 | h0
        · exact h0
        · have := (h3 h0).1
          cases this
      subst hc0
      have hx0 : xs = [] := List.eq_nil_of_length_eq_zero (by omega)
      subst hx0
      obtain ⟨v', w', hrun, r1, r2, _⟩ := run_append_own (P := Try.prog) w w.heap.size 23 ty 9 i (.string ⟨#[]⟩) 1 16 Try.underlying23 hi hz hs hb rfl (by decide) (.slice none 0 0) 0 [] (World.ownsRow_nil w _ 9 1) ⟨g, 0, none⟩ 1 c [.string x] rfl hnews hone (by unfold maxLen; omega) (by omega) (Nat.le_refl _)
      obtain ⟨b', q1, q2⟩ := que_of_owns (xs := [x]) r1 rfl rfl (by omega)
      exact ⟨v', w', b', hrun, q1, .inr q2, ⟨r2.os, r2.tape, r2.output, r2.size, fun k hk _ => r2.block k hk (by simp [Value.ownBlock])⟩⟩
    | some a' =>
      obtain ⟨v', w', hrun, r1, r2⟩ := run_append_arg_grows (P := Try.prog) w 23 ty 9 i (.string ⟨#[]⟩) 1 16 Try.underlying23 hi hz hs hb rfl (by decide) a' xs.length cap (xs.map Value.string) (by simp)
        (fun j u hu => by
          have hj : j < xs.length := by
            have := (List.getElem?_eq_some_iff.1 hu).1
            simpa using this
          have ha := (h3 (by omega)).1
          cases ha
          rw [List.getElem?_map] at hu
          rw [Addr.add_lit]
          rw [List.getElem?_eq_getElem hj] at hu
          simp at hu
          subst hu
          exact h4 j _ (List.getElem?_eq_getElem hj))
        ⟨g, 0, none⟩ 1 c [.string x] rfl hnews (by omega) (by unfold maxLen; omega) (by omega)
      obtain ⟨b', q1, q2⟩ := que_of_owns (xs := xs ++ [x]) r1 hmap (by simp) (by omega)
      exact ⟨v', w', b', hrun, q1, .inr q2, ⟨r2.os, r2.tape, r2.output, r2.size, fun k hk _ => r2.block k hk (by simp)⟩⟩

/-- .. for the walk. -/
theorem wpList_append_que {ops : Array Oper} {rest : List Oper} {o : Oper} {a : Act} {Q : Exit → Act → World → Prop} (hgd : o.guard = none) (s x : Operand)
    (ho : o.op = .call { callee := .builtin .append, args := #[s, x], argTypes := #[23, 23] }) (h : Que w b v xs) (hs : a.eval s = v) (g c : Nat) (y : ByteArray) (hx : a.eval x = .slice (some ⟨g, 0, none⟩) 1 c)
    (hy : w.cell? ⟨g, 0, none⟩ = some (.string y)) (hlen : xs.length + 1 ≤ 1099511627776)
    (hK : ∀ v' w' b', Que w' b' v' (xs ++ [y]) → (b' = b ∨ w.heap.size ≤ b') → w.grownBy w' (some b) → wpList Try.prog ops Q rest (a.put o.dst v') w') : wpList Try.prog ops Q (o :: rest) a w := by
  refine wpList_plain hgd fun K hK' => ?_
  obtain ⟨v', w', b', hrun, r1, r2, r3⟩ := h.append o.type g c y hy hlen
  unfold Oper.wp
  simp [execOp, ho, resolve, invoke, builtin, hs, hx, hrun, Result.andThen]
  exact hK' _ _ (hK v' w' b' r1 r2 r3)
end
end Go.Proofs.Qxb6600574a
