/-
  FnShapeFieldKeepsWhatJSONMayMatch: the parts.
-/
import Derived.Test.Qxb6605411aField
namespace Go.Proofs.Qxb6605411a
open Go.RowKit

/-! ### what field answers -/
/-- The first place below k at which S reads as s. -/
def firstIdx (S : Nat → ByteArray) (k : Nat) (s : ByteArray) : Option Nat := (List.range k).find? fun j => decide (S j = s)

theorem firstIdx_succ (S : Nat → ByteArray) (k : Nat) (s : ByteArray) : firstIdx S (k + 1) s = (firstIdx S k s).or (if S k = s then some k else none) := by
  unfold firstIdx
  rw [List.range_succ, List.find?_append]
  simp only [List.find?_cons, List.find?_nil]
  by_cases h : S k = s <;> simp [h]

theorem firstIdx_some {S : Nat → ByteArray} {k j : Nat} {s : ByteArray} (h : firstIdx S k s = some j) : j < k ∧ S j = s ∧ ∀ i, i < j → S i ≠ s := by
  induction k with
  | zero => simp [firstIdx] at h
  | succ k ih =>
    rw [firstIdx_succ] at h
    cases hk : firstIdx S k s with
    | none =>
      rw [hk] at h
      by_cases e : S k = s
      · simp [e] at h
        subst h
        refine ⟨by omega, e, fun i hi hs => ?_⟩
        unfold firstIdx at hk
        rw [List.find?_eq_none] at hk
        have := hk i (by simpa using hi)
        simp [hs] at this
      · simp [e] at h
    | some j' =>
      rw [hk] at h
      simp at h
      subst h
      obtain ⟨h1, h2⟩ := ih hk
      exact ⟨by omega, h2⟩

theorem firstIdx_none {S : Nat → ByteArray} {k : Nat} {s : ByteArray} (h : firstIdx S k s = none) : ∀ i, i < k → S i ≠ s := by
  intro i hi hs
  unfold firstIdx at h
  rw [List.find?_eq_none] at h
  have := h i (by simpa using hi)
  simp [hs] at this

/-- The map 'fields' after k rounds. -/
def ff (S : Nat → ByteArray) (Pt : Nat → Nat) (k : Nat) (s : ByteArray) : Option Value := (firstIdx S k s).map fun j => .pointer (some ⟨Pt j, 0, none⟩)

/-- .. and 'folded'. -/
def gl (S : Nat → ByteArray) (k : Nat) : List ByteArray := (List.range k).map fun j => lowS (S j)
def gg (S : Nat → ByteArray) (k : Nat) (s : ByteArray) : Option Value := if kin s (gl S k) then some (.bool true) else none

theorem gl_succ (S : Nat → ByteArray) (k : Nat) : gl S (k + 1) = gl S k ++ [lowS (S k)] := by simp [gl, List.range_succ]

theorem ff_hit {S : Nat → ByteArray} {Pt : Nat → Nat} {k j : Nat} (h : firstIdx S k (S k) = some j) (b : Nat) (s : ByteArray) : ff S (fun i => if i = k then b else Pt i) (k + 1) s = ff S Pt k s := by
  unfold ff
  rw [firstIdx_succ]
  cases hs : firstIdx S k s with
  | some i =>
    have := (firstIdx_some hs).1
    simp
    omega
  | none =>
    by_cases e : S k = s
    · rw [e] at h; rw [h] at hs; cases hs
    · simp [e]

theorem ff_new {S : Nat → ByteArray} {Pt : Nat → Nat} {k : Nat} (h : firstIdx S k (S k) = none) (b : Nat) (s : ByteArray) : (if s = S k then some (Value.pointer (some ⟨b, 0, none⟩)) else ff S Pt k s) = ff S (fun i => if i = k then b else Pt i) (k + 1) s := by
  unfold ff
  rw [firstIdx_succ]
  by_cases e : s = S k
  · subst e
    rw [h]
    simp
  · have e' : ¬ S k = s := fun x => e x.symm
    simp only [e, e', if_false]
    cases hs : firstIdx S k s with
    | some i =>
      have := (firstIdx_some hs).1
      simp
      omega
    | none => simp

theorem gg_step (S : Nat → ByteArray) (k : Nat) (s : ByteArray) : (if s = lowS (S k) then some (Value.bool true) else gg S k s) = gg S (k + 1) s := by
  unfold gg
  rw [gl_succ, kin_snoc]
  by_cases e : s = lowS (S k)
  · simp [e]
  · have e' : ¬ lowS (S k) = s := fun x => e x.symm
    simp [e, e']

def fieldV (whole : Bool) (f : ByteArray → Option Value) (t : ByteArray) : Value := if whole then .pointer none else (f t).getD (.pointer none)
def fieldK (whole : Bool) (f : ByteArray → Option Value) (l : List ByteArray) (t : ByteArray) : Bool := whole || (f t).isSome || wide t || kin (lowS t) l

/-! ### worlds -/
theorem Keep.refl (w : World) : Keep w w := ⟨rfl, rfl, Nat.le_refl _, fun _ _ => rfl⟩
theorem Keep.of_below {w w' : World} (h : Below w.heap.size w w') : Keep w w' := ⟨h.os, h.output, h.size, h.block⟩
theorem Keep.trans {w w1 w2 : World} (h : Keep w w1) (k : Keep w1 w2) : Keep w w2 := ⟨k.os.trans h.os, k.output.trans h.output, Nat.le_trans h.size k.size, fun i hi => (k.block i (Nat.lt_of_lt_of_le hi h.size)).trans (h.block i hi)⟩
theorem Keep.of_drawn {w w' : World} (h : ∃ q, w' = w.drewN q) : Keep w w' := by obtain ⟨q, rfl⟩ := h; exact ⟨rfl, rfl, Nat.le_refl _, fun _ _ => rfl⟩
theorem Keep.cell {w w' : World} (h : Keep w w') {p : Addr} {v : Value} (hc : w.cell? p = some v) : w'.cell? p = some v :=
  (World.cell?_of_block (a := p) (h.block p.block (World.block_lt_of_cell? _ _ hc))).trans hc
theorem Keep.map {w w' : World} (h : Keep w w') {b m : Nat} {f : ByteArray → Option Value} (hm : strMap Try.prog 9 w b m f) : strMap Try.prog 9 w' b m f := hm.of_block (h.block b hm.lt)
theorem Keep.row {w w' : World} (h : Keep w w') {b n : Nat} {t : TypeId} {F : Nat → Value} (hr : w.rowIs b t n F) : w'.rowIs b t n F := hr.of_block (h.block b hr.lt)
theorem KeyAt.keep {H : Nat} {w w' : World} {a : Option Addr} {n : Nat} {t : ByteArray} (h : KeyAt H w a n t) (hb : Keep w w') : KeyAt H w' a n t := by
  obtain ⟨h1, h2, h3⟩ := h
  refine ⟨h1, h2, ?_⟩
  rcases h3 with h3 | ⟨b, ha, hlt, hc⟩
  · exact .inl h3
  · exact .inr ⟨b, ha, hlt, fun i hi => hb.cell (hc i hi)⟩

/-! ### the callees -/
/-- ZZField, whatever the shape holds. -/
theorem zzfield_any (H R fb m gb m' : Nat) (whole : Bool) (f : ByteArray → Option Value) (S : Nat → ByteArray) (N : Nat) (ka : Option Addr) (kn kc : Nat) (t : ByteArray) (w : World)
    (c1 : w.cell? ⟨R, 1, none⟩ = some (.map (some fb))) (c2 : w.cell? ⟨R, 2, none⟩ = some (.map (some gb))) (c3 : w.cell? ⟨R, 3, none⟩ = some (.bool whole))
    (hH : H ≤ w.heap.size) (hk : KeyAt H w ka kn t) (hmap : strMap Try.prog 9 w fb m f) (hmap2 : strMap Try.prog 9 w gb m' (gg S N)) :
    Calls Try.prog 19 #[.pointer (some ⟨R, 0, none⟩), .slice ka kn kc] w fun e w' => e = .returned (.tuple #[fieldV whole f t, .bool (fieldK whole f (gl S N) t)]) ∧ Keep w w' := by
  have inner : Calls Try.prog 26 #[.pointer (some ⟨R, 0, none⟩), .slice ka kn kc] w fun e w' => e = .returned (.tuple #[fieldV whole f t, .bool (fieldK whole f (gl S N) t)]) ∧ Keep w w' := by
    cases whole with
    | true =>
      refine (field_whole R ka kn kc w c3).mono ?_
      rintro e w' ⟨rfl, rfl⟩
      exact ⟨by simp [fieldV, fieldK], Keep.refl _⟩
    | false =>
      cases hf : f t with
      | some p =>
        refine (field_hit H R fb m f p ka kn kc t w c1 c3 hk hmap hf).mono ?_
        rintro e w' ⟨rfl, hw⟩
        exact ⟨by simp [fieldV, fieldK, hf], Keep.of_drawn hw⟩
      | none =>
        cases hw : wide t with
        | true =>
          refine (field_wide H R fb m f ka kn kc t w c1 c3 hk hmap hf hw).mono ?_
          rintro e w' ⟨rfl, hw'⟩
          exact ⟨by simp [fieldV, fieldK, hf, hw], Keep.of_drawn hw'⟩
        | false =>
          refine (field_low H R fb m gb m' f (gg S N) (kin (lowS t) (gl S N)) ka kn kc t w c1 c2 c3 hH hk hmap hf hmap2 ?_ hw).mono ?_
          · unfold gg
            cases kin (lowS t) (gl S N) <;> rfl
          · rintro e w' ⟨rfl, hk'⟩
            exact ⟨by simp [fieldV, fieldK, hf, hw], hk'⟩
  go_enter Try.func19, Try.ntmps19
  go_wp2_with fail
  refine inner.mono ?_
  rintro e w' ⟨rfl, hk'⟩
  go_wp2_with fail
  go_ret2
  exact ⟨rfl, hk'⟩

set_option maxHeartbeats 400000 in
theorem make_any (whole : Bool) (fb gb : Nat) (w : World) :
    Calls Try.prog 18 #[.bool whole, .map (some fb), .map (some gb)] w fun e w' => e = .returned (.pointer (some ⟨w.heap.size, 0, none⟩)) ∧
      (w'.cell? ⟨w.heap.size, 1, none⟩ = some (.map (some fb)) ∧ w'.cell? ⟨w.heap.size, 2, none⟩ = some (.map (some gb)) ∧ w'.cell? ⟨w.heap.size, 3, none⟩ = some (.bool whole)) ∧ Below w.heap.size w w' := by
  go_enter Try.func18, Try.ntmps18
  go_wp2
  go_ret
  exact ⟨rfl, ⟨by simp, by simp, by simp⟩, (Below.refl _ _).alloc (Nat.le_refl _) _⟩

/-- WHAT CAME IN: N strings. -/
structure SIn (w : World) (a0 : Option Addr) (N : Nat) (S : Nat → ByteArray) : Prop where
  outer : 0 < N → ∃ b off, a0 = some ⟨b, off, none⟩ ∧ ∀ i, i < N → w.cell? ⟨b, off + i, none⟩ = some (.string (S i))
  big : ∀ i, i < N → (S i).size ≤ maxLen

def SaidS (e : Ending) (w w' : World) (p : Prop) : Prop := ∃ r : Bool, e = .returned (.bool r) ∧ w' = w ∧ (r = true → p)
theorem SaidS.no (w : World) (p : Prop) : SaidS (.returned (.bool false)) w w p := ⟨false, rfl, rfl, fun h => by cases h⟩
theorem SaidS.yes (w : World) {p : Prop} (h : p) : SaidS (.returned (.bool true)) w w p := ⟨true, rfl, rfl, fun _ => h⟩
def SmallS (N : Nat) (S : Nat → ByteArray) (n : Nat) : Prop := N ≤ 1048576 ∧ n ≤ 1048576 ∧ ∀ i, i < N → (S i).size ≤ 1048576

set_option maxHeartbeats 2000000 in
theorem guard16 (w : World) (whole : Bool) (a0 : Option Addr) (N cap : Nat) (S : Nat → ByteArray) (ka : Option Addr) (n kc : Nat) (h : SIn w a0 N S) (hN : N ≤ maxLen) (hn : n ≤ maxLen) :
    Calls Try.prog 16 #[.bool whole, .slice a0 N cap, .slice ka n kc] w fun e w' => SaidS e w w' (SmallS N S n) := by
  unfold maxLen at hN hn
  by_cases hN1 : N ≤ 1048576
  · have d1 : decide ((1048576 : Int) < (N : Int)) = false := by simp; omega
    go_enter Try.func16, Try.ntmps16
    go_wp2
    go_loop [7, 8] (fun z i => ∃ k s : Nat, k ≤ N ∧ s ≤ 1048576 ∧ i = .int .i64 k ∧ z = .int .i64 s ∧ Hid (∀ j, j < k → (S j).size ≤ 1048576)) (fun _ i => N - (intOf i).toNat)
    case atStart => exact ⟨0, N, Nat.zero_le _, hN1, rfl, rfl, (fun j hj => by omega : ∀ j, j < 0 → (S j).size ≤ 1048576)⟩
    case round =>
      obtain ⟨k, s, hk, hs, rfl, rfl, hg⟩ := hrel
      by_cases hlt : k < N
      · obtain ⟨b, off, rfl, hc⟩ := h.outer (by omega)
        have g0 := hc k hlt
        have l1 : (k : Int) < (N : Int) := by omega
        have hbig := h.big k hlt
        unfold maxLen at hbig
        clear hc
        by_cases hL : (S k).size ≤ 1048576
        · by_cases hS : s + (S k).size ≤ 1048576
          · go_wp2
            go_round
            case rel => exact ⟨k + 1, s + (S k).size, by omega, hS, by go_num, by go_num, (fun j hj => by
              by_cases e : j = k
              · rw [e]; exact hL
              · exact hg.out j (by omega) : ∀ j, j < k + 1 → (S j).size ≤ 1048576)⟩
            case measure => simp [intOf]; omega
          · go_wp2
            go_ret
            exact SaidS.no _ _
        · go_wp2
          go_ret
          exact SaidS.no _ _
      · clear h
        by_cases hn1 : n ≤ 1048576
        · by_cases hS : s + n ≤ 1048576
          · go_wp2
            go_ret
            exact SaidS.yes _ ⟨hN1, hn1, fun i hi => hg.out i (by omega)⟩
          · go_wp2
            go_ret
            exact SaidS.no _ _
        · go_wp2
          go_ret
          exact SaidS.no _ _
  · clear h
    go_enter Try.func16, Try.ntmps16
    go_wp2
    go_ret
    exact SaidS.no _ _
end Go.Proofs.Qxb6605411a
