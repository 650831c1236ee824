/-
  zzHasCapital, the two size guards of one string.
-/
import Derived.Test.Qxb6605349aCmp
namespace Go.Proofs.Qxb6605349a
open Go.RowKit

theorem ret_bool {a b : Bool} (h : a = b) : Ending.returned (.bool a) = .returned (.bool b) := by rw [h]

theorem cap_drop (s : ByteArray) (k : Nat) (h : k < s.size) :
    cap (s.data.toList.drop k) = ((decide (65 ≤ (s[k].toNat : Int)) && decide ((s[k].toNat : Int) ≤ 90)) || cap (s.data.toList.drop (k + 1))) := by
  rw [drop_step s k h, cap_cons]

set_option maxHeartbeats 400000 in
theorem has_any (s : ByteArray) (hs : s.size ≤ maxLen) (w : World) :
    Calls Try.prog 12 #[.string s] w fun e w' => e = .returned (.bool (cap s.data.toList)) ∧ w' = w := by
  unfold maxLen at hs
  go_enter Try.func12, Try.ntmps12
  go_wp2
  go_loop [3] (fun i => ∃ k : Nat, k ≤ s.size ∧ i = .int .i64 k ∧ Hid (cap s.data.toList = cap (s.data.toList.drop k))) (fun i => s.size - (intOf i).toNat)
  case atStart => exact ⟨0, Nat.zero_le _, rfl, (by simp : cap s.data.toList = cap (s.data.toList.drop 0))⟩
  case round =>
    obtain ⟨k, hk, rfl, hg⟩ := hrel
    by_cases hlt : k < s.size
    · have hd := cap_drop s k hlt
      have Hd : Hid (cap (s.data.toList.drop k) = ((decide (65 ≤ (s[k].toNat : Int)) && decide ((s[k].toNat : Int) ≤ 90)) || cap (s.data.toList.drop (k + 1)))) := hd
      clear hd
      by_cases c1 : 65 ≤ (s[k].toNat : Int)
      · by_cases c2 : (s[k].toNat : Int) ≤ 90
        · go_wp2
          go_ret
          exact ⟨ret_bool (by rw [hg.out, Hd.out]; simp [c1, c2]), rfl⟩
        · go_wp2
          go_round
          case rel => exact ⟨k + 1, by omega, by go_num, hg.out.trans (by rw [Hd.out]; simp [c2])⟩
          case measure => simp [intOf]; omega
      · go_wp2
        go_round
        case rel => exact ⟨k + 1, by omega, by go_num, hg.out.trans (by rw [Hd.out]; simp [c1])⟩
        case measure => simp [intOf]; omega
    · go_wp2
      go_ret
      exact ⟨ret_bool (by rw [hg.out, List.drop_eq_nil_of_le (by simp; omega)]; rfl), rfl⟩

theorem bytes9_yes (a : ByteArray) (h : a.size ≤ 1048576) (w : World) :
    Calls Try.prog 9 #[.string a] w fun e w' => e = .returned (.bool true) ∧ w' = w := by
  go_enter Try.func9, Try.ntmps9
  go_wp2
  go_ret
  exact ⟨rfl, rfl⟩

theorem bytes9_no (a : ByteArray) (wa : a.size ≤ maxLen) (h : ¬ a.size ≤ 1048576) (w : World) :
    Calls Try.prog 9 #[.string a] w fun e w' => e = .returned (.bool false) ∧ w' = w := by
  unfold maxLen at wa
  go_enter Try.func9, Try.ntmps9
  go_wp2
  go_ret
  exact ⟨rfl, rfl⟩

theorem bytes11_yes (a : ByteArray) (h : a.size ≤ 1048576) (w : World) :
    Calls Try.prog 11 #[.string a] w fun e w' => e = .returned (.bool true) ∧ w' = w := by
  go_enter Try.func11, Try.ntmps11
  go_wp2
  go_ret
  exact ⟨rfl, rfl⟩

theorem bytes11_no (a : ByteArray) (wa : a.size ≤ maxLen) (h : ¬ a.size ≤ 1048576) (w : World) :
    Calls Try.prog 11 #[.string a] w fun e w' => e = .returned (.bool false) ∧ w' = w := by
  unfold maxLen at wa
  go_enter Try.func11, Try.ntmps11
  go_wp2
  go_ret
  exact ⟨rfl, rfl⟩
end Go.Proofs.Qxb6605349a
