/-
  The guards (6, 7), isDeclared (18), sameNames (14).
-/
import Derived.Test.Qxb6600574aMem
namespace Go.Proofs.Qxb6600574a
open Go.RowKit

theorem ret_bool {a b : Bool} (h : a = b) : Ending.returned (.bool a) = .returned (.bool b) := by rw [h]
theorem eqs_true {s t : ByteArray} (h : s = t) : (s.toList == t.toList) = true := by rw [h]; simp
theorem eqs_false {s t : ByteArray} (h : s ≠ t) : (s.toList == t.toList) = false := by
  rw [beq_eq_false_iff_ne]
  intro e
  apply h
  rw [ByteArray.toList_eq, ByteArray.toList_eq] at e
  cases s; cases t
  simp at e
  rw [e]

/-- N LINKS IN THE WORLD w. -/
structure LIn (w : World) (a0 : Option Addr) (N : Nat) (F T : Nat → ByteArray) : Prop where
  outer : 0 < N → ∃ b off, a0 = some ⟨b, off, none⟩ ∧ ∀ i, i < N → w.cell? ⟨b, off + i * 2, none⟩ = some (.string (F i)) ∧ w.cell? ⟨b, off + i * 2 + 1, none⟩ = some (.string (T i))
  big : ∀ i, i < N → (F i).size ≤ maxLen ∧ (T i).size ≤ maxLen

/-- M NAMES IN THE WORLD w. -/
structure SIn (w : World) (a0 : Option Addr) (N : Nat) (S : Nat → ByteArray) : Prop where
  outer : 0 < N → ∃ b off, a0 = some ⟨b, off, none⟩ ∧ ∀ i, i < N → w.cell? ⟨b, off + i, none⟩ = some (.string (S i))
  big : ∀ i, i < N → (S i).size ≤ maxLen

def SaidG (e : Ending) (w w' : World) (v : Bool) (p : Prop) : Prop := ∃ r : Bool, e = .returned (.bool r) ∧ (∃ q, w' = w.drewN q) ∧ (r = v → p)
theorem SaidG.other (w : World) (v : Bool) (p : Prop) (q : Nat) : SaidG (.returned (.bool (!v))) w (w.drewN q) v p := ⟨!v, rfl, ⟨q, rfl⟩, fun h => by cases v <;> cases h⟩
theorem SaidG.it (w : World) (v : Bool) {p : Prop} (h : p) (q : Nat) : SaidG (.returned (.bool v)) w (w.drewN q) v p := ⟨v, rfl, ⟨q, rfl⟩, fun _ => h⟩

def SmallIn (N : Nat) (F T : Nat → ByteArray) (M : Nat) (A : Nat → ByteArray) : Prop := N ≤ 1048576 ∧ M ≤ 1048576 ∧ (∀ i, i < N → (F i).size ≤ 1048576 ∧ (T i).size ≤ 1048576) ∧ ∀ i, i < M → (A i).size ≤ 1048576

/-! ### isDeclared -/
def declB (N : Nat) (F T : Nat → ByteArray) (M : Nat) (A : Nat → ByteArray) (s : ByteArray) : Prop := (∃ i, i < N ∧ (F i = s ∨ T i = s)) ∨ ∃ i, i < M ∧ A i = s

def SaidD (e : Ending) (w w' : World) (p : Prop) : Prop := ∃ r : Bool, e = .returned (.bool r) ∧ w' = w ∧ (r = true ↔ p)
theorem SaidD.no (w : World) {p : Prop} (h : ¬ p) : SaidD (.returned (.bool false)) w w p := ⟨false, rfl, rfl, ⟨(fun h => by cases h), fun x => absurd x h⟩⟩
theorem SaidD.yes (w : World) {p : Prop} (h : p) : SaidD (.returned (.bool true)) w w p := ⟨true, rfl, rfl, ⟨fun _ => h, fun _ => rfl⟩⟩

set_option maxHeartbeats 1000000 in
theorem declared_any (w : World) (a0 : Option Addr) (N c0 : Nat) (F T : Nat → ByteArray) (h : LIn w a0 N F T) (a1 : Option Addr) (M c1 : Nat) (A : Nat → ByteArray) (h1 : SIn w a1 M A) (hN : N ≤ 1048576) (hM : M ≤ 1048576) (s : ByteArray) :
    Calls Try.prog 18 #[.slice a0 N c0, .slice a1 M c1, .string s] w fun e w' => SaidD e w w' (declB N F T M A s) := by
  go_enter Try.func18, Try.ntmps18
  go_wp2
  go_loop [7] (fun i => ∃ k : Nat, k ≤ N ∧ i = .int .i64 k ∧ Hid (∀ j, j < k → F j ≠ s ∧ T j ≠ s)) (fun i => N - (intOf i).toNat)
  case atStart => exact ⟨0, Nat.zero_le _, rfl, (fun j hj => by omega : ∀ j, j < 0 → F j ≠ s ∧ T j ≠ s)⟩
  case round =>
    obtain ⟨k, hk, rfl, hg⟩ := hrel
    by_cases hlt : k < N
    · obtain ⟨b, off, rfl, hc⟩ := h.outer (by omega)
      obtain ⟨g0, g1⟩ := hc k hlt
      have l1 : (k : Int) < (N : Int) := by omega
      clear hc h h1
      by_cases e1 : F k = s
      · have d1 := eqs_true e1
        have E1 : Hid (F k = s) := e1
        clear e1
        go_wp2
        go_ret
        exact SaidD.yes _ (.inl ⟨k, hlt, .inl E1.out⟩)
      · have d1 := eqs_false e1
        have E1 : Hid (F k ≠ s) := e1
        clear e1
        by_cases e2 : T k = s
        · have d2 := eqs_true e2
          have E2 : Hid (T k = s) := e2
          clear e2
          go_wp2
          go_ret
          exact SaidD.yes _ (.inl ⟨k, hlt, .inr E2.out⟩)
        · have d2 := eqs_false e2
          have E2 : Hid (T k ≠ s) := e2
          clear e2
          go_wp2
          go_round
          case rel => exact ⟨k + 1, by omega, by go_num, (fun j hj => by
            by_cases e : j = k
            · rw [e]; exact ⟨E1.out, E2.out⟩
            · exact hg.out j (by omega) : ∀ j, j < k + 1 → F j ≠ s ∧ T j ≠ s)⟩
          case measure => simp [intOf]; omega
    · obtain rfl : k = N := by omega
      clear h hlt
      have hgN := hg
      clear hg
      go_wp2
      go_loop [8] (fun i => ∃ k : Nat, k ≤ M ∧ i = .int .i64 k ∧ Hid (∀ j, j < k → A j ≠ s)) (fun i => M - (intOf i).toNat)
      case atStart => exact ⟨0, Nat.zero_le _, rfl, (fun j hj => by omega : ∀ j, j < 0 → A j ≠ s)⟩
      case round =>
        obtain ⟨m, hm, rfl, hg⟩ := hrel
        by_cases hlt : m < M
        · obtain ⟨b, off, rfl, hc⟩ := h1.outer (by omega)
          have g0 := hc m hlt
          have l1 : (m : Int) < (M : Int) := by omega
          clear hc h1
          by_cases e1 : A m = s
          · have d1 := eqs_true e1
            have E1 : Hid (A m = s) := e1
            clear e1
            go_wp2
            go_ret
            exact SaidD.yes _ (.inr ⟨m, hlt, E1.out⟩)
          · have d1 := eqs_false e1
            have E1 : Hid (A m ≠ s) := e1
            clear e1
            go_wp2
            go_round
            case rel => exact ⟨m + 1, by omega, by go_num, (fun j hj => by
              by_cases e : j = m
              · rw [e]; exact E1.out
              · exact hg.out j (by omega) : ∀ j, j < m + 1 → A j ≠ s)⟩
            case measure => simp [intOf]; omega
        · clear h1
          go_wp2
          go_ret
          refine SaidD.no _ ?_
          rintro (⟨i, hi, x | x⟩ | ⟨i, hi, x⟩)
          · exact (hgN.out i hi).1 x
          · exact (hgN.out i hi).2 x
          · exact hg.out i (by omega) x
end Go.Proofs.Qxb6600574a
