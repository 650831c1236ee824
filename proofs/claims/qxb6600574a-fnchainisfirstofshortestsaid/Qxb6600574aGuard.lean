/-
  The guards: zzBytes (6), chainTooBig (7); sameNames (14).
-/
import Derived.Test.Qxb6600574aCopy
namespace Go.Proofs.Qxb6600574a
open Go.RowKit

def SaidS (e : Ending) (w w' : World) (p : Prop) : Prop := ∃ r : Bool, e = .returned (.bool r) ∧ w' = w ∧ (r = true → p)
theorem SaidS.no (w : World) (p : Prop) : SaidS (.returned (.bool false)) w w p := ⟨false, rfl, rfl, fun h => by cases h⟩
theorem SaidS.yes (w : World) {p : Prop} (h : p) : SaidS (.returned (.bool true)) w w p := ⟨true, rfl, rfl, fun _ => h⟩

set_option maxHeartbeats 4000000 in
theorem guard6 (w : World) (a0 : Option Addr) (N c0 : Nat) (F T : Nat → ByteArray) (h : LIn w a0 N F T) (a1 : Option Addr) (M c1 : Nat) (A : Nat → ByteArray) (h1 : SIn w a1 M A) (hN : N ≤ maxLen) (hM : M ≤ maxLen) (lo up : ByteArray) (hlo : lo.size ≤ maxLen) (hup : up.size ≤ maxLen) :
    Calls Try.prog 6 #[.slice a0 N c0, .slice a1 M c1, .string lo, .string up] w fun e w' => SaidS e w w' (SmallIn N F T M A) := by
  unfold maxLen at hN hM hlo hup
  by_cases hN1 : N ≤ 1048576
  · have d1 : decide ((1048576 : Int) < (N : Int)) = false := by simp; omega
    go_enter Try.func6, Try.ntmps6
    go_wp2
    go_loop [9, 10] (fun z i => ∃ k s : Nat, k ≤ N ∧ s ≤ 1048576 ∧ i = .int .i64 k ∧ z = .int .i64 s ∧ Hid (∀ j, j < k → (F j).size ≤ 1048576 ∧ (T j).size ≤ 1048576)) (fun _ i => N - (intOf i).toNat)
    case atStart => exact ⟨0, N, Nat.zero_le _, hN1, rfl, rfl, (fun j hj => by omega : ∀ j, j < 0 → (F j).size ≤ 1048576 ∧ (T j).size ≤ 1048576)⟩
    case round =>
      obtain ⟨k, s, hk, hs, rfl, rfl, hg⟩ := hrel
      by_cases hlt : k < N
      · obtain ⟨b, off, rfl, hc⟩ := h.outer (by omega)
        obtain ⟨g0, g1⟩ := hc k hlt
        have l1 : (k : Int) < (N : Int) := by omega
        obtain ⟨hb1, hb2⟩ := h.big k hlt
        unfold maxLen at hb1 hb2
        clear hc h h1
        by_cases hL : (F k).size ≤ 1048576
        · by_cases hS : s + (F k).size ≤ 1048576
          · by_cases hL2 : (T k).size ≤ 1048576
            · by_cases hS2 : s + (F k).size + (T k).size ≤ 1048576
              · go_wp2
                go_round
                case rel => exact ⟨k + 1, s + (F k).size + (T k).size, by omega, hS2, by go_num, by go_num, (fun j hj => by
                  by_cases e : j = k
                  · rw [e]; exact ⟨hL, hL2⟩
                  · exact hg.out j (by omega) : ∀ j, j < k + 1 → (F j).size ≤ 1048576 ∧ (T j).size ≤ 1048576)⟩
                case measure => simp [intOf]; omega
              · go_wp2
                go_ret
                exact SaidS.no _ _
            · go_wp2
              go_ret
              exact SaidS.no _ _
          · go_wp2
            go_ret
            exact SaidS.no _ _
        · go_wp2
          go_ret
          exact SaidS.no _ _
      · obtain rfl : k = N := by omega
        clear h hlt
        have hgN := hg
        clear hg
        by_cases hM1 : M ≤ 1048576
        · by_cases hS : s + M ≤ 1048576
          · have d2 : decide ((1048576 : Int) < (M : Int)) = false := by simp; omega
            have d3 : decide ((1048576 : Int) < (s : Int) + (M : Int)) = false := by simp; omega
            go_wp2
            go_loop [9, 11] (fun z i => ∃ m s : Nat, m ≤ M ∧ s ≤ 1048576 ∧ i = .int .i64 m ∧ z = .int .i64 s ∧ Hid (∀ j, j < m → (A j).size ≤ 1048576)) (fun _ i => M - (intOf i).toNat)
            case atStart => exact ⟨0, s + M, Nat.zero_le _, hS, rfl, by go_num, (fun j hj => by omega : ∀ j, j < 0 → (A j).size ≤ 1048576)⟩
            case round =>
              obtain ⟨m, s, hm, hs, rfl, rfl, hg⟩ := hrel
              by_cases hlt : m < M
              · obtain ⟨b, off, rfl, hc⟩ := h1.outer (by omega)
                have g0 := hc m hlt
                have l1 : (m : Int) < (M : Int) := by omega
                have hb1 := h1.big m hlt
                unfold maxLen at hb1
                clear hc h1
                by_cases hL : (A m).size ≤ 1048576
                · by_cases hS : s + (A m).size ≤ 1048576
                  · go_wp2
                    go_round
                    case rel => exact ⟨m + 1, s + (A m).size, by omega, hS, by go_num, by go_num, (fun j hj => by
                      by_cases e : j = m
                      · rw [e]; exact hL
                      · exact hg.out j (by omega) : ∀ j, j < m + 1 → (A j).size ≤ 1048576)⟩
                    case measure => simp [intOf]; omega
                  · go_wp2
                    go_ret
                    exact SaidS.no _ _
                · go_wp2
                  go_ret
                  exact SaidS.no _ _
              · clear h1
                by_cases l1 : lo.size ≤ 1048576
                · by_cases l2 : s + lo.size ≤ 1048576
                  · by_cases l3 : up.size ≤ 1048576
                    · by_cases l4 : s + lo.size + up.size ≤ 1048576
                      · go_wp2
                        go_ret
                        exact SaidS.yes _ ⟨hN1, hM1, hgN.out, fun i hi => hg.out i (by omega)⟩
                      · go_wp2
                        go_ret
                        exact SaidS.no _ _
                    · go_wp2
                      go_ret
                      exact SaidS.no _ _
                  · go_wp2
                    go_ret
                    exact SaidS.no _ _
                · go_wp2
                  go_ret
                  exact SaidS.no _ _
          · clear h1
            go_wp2
            go_ret
            exact SaidS.no _ _
        · clear h1
          go_wp2
          go_ret
          exact SaidS.no _ _
  · clear h h1
    go_enter Try.func6, Try.ntmps6
    go_wp2
    go_ret
    exact SaidS.no _ _
end Go.Proofs.Qxb6600574a
