/-
  THE WALKS THAT CompareTitles GOES THROUGH.
-/
import Derived.Test.Qxb6605349aRows
import Derived.Test.Qxb6605349aPlain
import Derived.WalkKit
import Derived.Lib.Bytealg
import Derived.Lib.Walk
import Derived.Deep.QuietTactic
import Derived.BigQuiet
import Derived.WalkLawsBesides
namespace Go.Proofs.Qxb6605349a
open Go.RowKit

theorem ret_int {k : IntKind} {a b : Int} (h : a = b) : Ending.returned (.int k a) = .returned (.int k b) := by rw [h]

set_option maxHeartbeats 400000 in
theorem lower_any (c : Int) (h0 : 0 ≤ c) (h1 : c ≤ 255) (w : World) :
    Calls Try.prog 13 #[.int .u8 c] w fun e w' => e = .returned (.int .u8 (lowI c)) ∧ w' = w := by
  by_cases a1 : 65 ≤ c
  · by_cases a2 : c ≤ 90
    · have e : lowI c = c + 32 := by unfold lowI; rw [if_pos ⟨a1, a2⟩]
      rw [e]
      go_enter Try.func13, Try.ntmps13
      go_wp2
      go_ret
      exact ⟨ret_int (by omega), rfl⟩
    · have e : lowI c = c := by unfold lowI; rw [if_neg (by omega)]
      rw [e]
      clear e
      go_enter Try.func13, Try.ntmps13
      go_wp2
      go_ret
      exact ⟨rfl, rfl⟩
  · have e : lowI c = c := by unfold lowI; rw [if_neg (by omega)]
    rw [e]
    clear e
    go_enter Try.func13, Try.ntmps13
    go_wp2
    go_ret
    exact ⟨rfl, rfl⟩

set_option maxHeartbeats 400000 in
theorem lower_byte (c : UInt8) (w : World) :
    Calls Try.prog 13 #[.int .u8 (c.toNat : Int)] w fun e w' => e = .returned (.int .u8 (keyL c)) ∧ w' = w :=
  lower_any _ (by omega) (by have := c.toNat_lt; omega) w

set_option maxHeartbeats 400000 in
theorem cmpstr_any (a b : ByteArray) (w : World) :
    Calls Try.prog 16 #[.string a, .string b] w fun e w' => e = .returned (.int .i64 (Lib.compareBytes a.data.toList b.data.toList)) ∧ w' = w := by
  go_enter Try.func16, Try.ntmps16
  go_wp2
  rw [run_callFunc_extern Try.func21 (by kernel_rfl) (by kernel_rfl) (by kernel_rfl) (e := Extern.BytealgCompare.compare) (by kernel_rfl), Lib.run_compareString]
  simp only [Result.andThen]
  rw [Oper.upon_value]
  go_wp2
  go_ret
  exact ⟨rfl, rfl⟩

set_option maxHeartbeats 400000 in
theorem compare_any (a b : ByteArray) (w : World) :
    Calls Try.prog 14 #[.string a, .string b] w fun e w' => e = .returned (.int .i64 (gc key a.data.toList b.data.toList)) ∧ w' = w := by
  rw [← gc_key]
  go_enter Try.func14, Try.ntmps14
  go_wp2_with (go_at_call 16; refine (cmpstr_any _ _ _).mono ?_; rintro e w' ⟨rfl, rfl⟩)
  go_ret
  exact ⟨rfl, rfl⟩

theorem drop_step (s : ByteArray) (k : Nat) (h : k < s.size) : s.data.toList.drop k = s[k] :: s.data.toList.drop (k + 1) := by
  rw [List.drop_eq_getElem_cons (by simpa using h)]; rfl

theorem gc_drop (f : UInt8 → Int) (a b : ByteArray) (k : Nat) (ha : k < a.size) (hb : k < b.size) :
    gc f (a.data.toList.drop k) (b.data.toList.drop k) = if f a[k] < f b[k] then -1 else if f b[k] < f a[k] then 1 else gc f (a.data.toList.drop (k + 1)) (b.data.toList.drop (k + 1)) := by
  rw [drop_step a k ha, drop_step b k hb]; rfl

theorem gc_end (f : UInt8 → Int) (a b : ByteArray) (k : Nat) (ha : k ≤ a.size) (hb : k ≤ b.size) (h : k = a.size ∨ k = b.size) :
    gc f (a.data.toList.drop k) (b.data.toList.drop k) = if a.size < b.size then -1 else if b.size < a.size then 1 else 0 := by
  have la : a.data.toList.length = a.size := by simp
  have lb : b.data.toList.length = b.size := by simp
  rcases h with h | h
  · have e : a.data.toList.drop k = [] := List.drop_eq_nil_of_le (by omega)
    rw [e]
    by_cases h2 : k = b.size
    · have e2 : b.data.toList.drop k = [] := List.drop_eq_nil_of_le (by omega)
      rw [e2, if_neg (by omega), if_neg (by omega)]; rfl
    · rw [drop_step b k (by omega), if_pos (by omega)]; rfl
  · have e : b.data.toList.drop k = [] := List.drop_eq_nil_of_le (by omega)
    rw [e]
    by_cases h2 : k = a.size
    · have e2 : a.data.toList.drop k = [] := List.drop_eq_nil_of_le (by omega)
      rw [e2, if_neg (by omega), if_neg (by omega)]; rfl
    · rw [drop_step a k (by omega), if_neg (by omega), if_pos (by omega)]; rfl

theorem drawn {w wr : World} (h : ∃ n, wr = w.drewN n) (m : Nat) : ∃ n, wr.drewN m = w.drewN n := by
  obtain ⟨n, rfl⟩ := h
  exact ⟨n + m, by rw [World.drewN_drewN]⟩

theorem ct_parts {a b : ByteArray} {k : Nat} (hg : Hid (gc keyL a.data.toList b.data.toList = gc keyL (a.data.toList.drop k) (b.data.toList.drop k))) {x : Int} (hx : gc keyL (a.data.toList.drop k) (b.data.toList.drop k) = x) (h0 : x ≠ 0) :
    x = ct a.data.toList b.data.toList := by
  have := hg.out
  unfold ct
  rw [if_neg (by omega)]
  omega

set_option maxHeartbeats 1000000 in
theorem titles_any (a b : ByteArray) (ha : a.size ≤ maxLen) (w : World) :
    Calls Try.prog 7 #[.string a, .string b] w fun e w' => e = .returned (.int .i64 (ct a.data.toList b.data.toList)) ∧ ∃ n, w' = w.drewN n := by
  unfold maxLen at ha
  go_enter Try.func7, Try.ntmps7
  go_wp2
  go_loopw [5] (fun i wr => ∃ k : Nat, k ≤ a.size ∧ k ≤ b.size ∧ i = .int .i64 k ∧ Hid (gc keyL a.data.toList b.data.toList = gc keyL (a.data.toList.drop k) (b.data.toList.drop k)) ∧ ∃ n, wr = w.drewN n) (fun i _ => a.size - (intOf i).toNat)
  case atStart => exact ⟨0, Nat.zero_le _, Nat.zero_le _, rfl, (by simp : gc keyL a.data.toList b.data.toList = gc keyL (a.data.toList.drop 0) (b.data.toList.drop 0)), 0, rfl⟩
  case round =>
    obtain ⟨k, hka, hkb, rfl, hg, hw⟩ := hrel
    by_cases l1 : k < a.size
    · by_cases l2 : k < b.size
      · go_wp2
        go_quiet ((go_at_call 13; exact Calls.quiet_of_same (lower_byte _ _)))
        go_wp2
        · go_ret
          exact ⟨ret_int (ct_parts hg (by rw [gc_drop keyL a b k l1 l2, if_pos ‹_›]) (by omega)), drawn hw _⟩
        · have hne : (keyL a[k] != keyL b[k]) = true := by assumption
          have hle : keyL b[k] ≤ keyL a[k] := by assumption
          go_ret
          exact ⟨ret_int (ct_parts hg (by rw [gc_drop keyL a b k l1 l2, if_neg (by omega), if_pos (by rw [bne_iff_ne] at hne; omega)]) (by omega)), drawn hw _⟩
        · have hne : (keyL a[k] != keyL b[k]) = false := by assumption
          have he : keyL a[k] = keyL b[k] := by simpa using hne
          have hd := gc_drop keyL a b k l1 l2
          rw [if_neg (by omega), if_neg (by omega)] at hd
          go_roundw
          case rel => exact ⟨k + 1, by omega, by omega, by go_num, hg.out.trans hd, drawn hw _⟩
          case measure => simp [intOf]; omega
      · have hend := gc_end keyL a b k hka hkb (.inr (by omega))
        have hne : ((a.size : Int) != (b.size : Int)) = true := by rw [bne_iff_ne]; omega
        have hlt : ¬ ((a.size : Int) < (b.size : Int)) := by omega
        go_wp2
        go_ret
        exact ⟨ret_int (ct_parts hg (by rw [hend, if_neg (by omega), if_pos (by omega)]) (by omega)), hw⟩
    · have hend := gc_end keyL a b k hka hkb (.inl (by omega))
      by_cases hs : a.size = b.size
      · have hne : ((a.size : Int) != (b.size : Int)) = false := by simp; omega
        rw [if_neg (by omega), if_neg (by omega)] at hend
        have hct : ct a.data.toList b.data.toList = gc key a.data.toList b.data.toList := by
          unfold ct
          rw [if_pos (hg.out.trans hend)]
        have Hct : Hid (ct a.data.toList b.data.toList = gc key a.data.toList b.data.toList) := hct
        clear hct hend
        go_wp2_with (go_at_call 14; refine (compare_any _ _ _).mono ?_; rintro e w' ⟨rfl, rfl⟩)
        go_ret
        exact ⟨ret_int Hct.out.symm, hw⟩
      · have hne : ((a.size : Int) != (b.size : Int)) = true := by rw [bne_iff_ne]; omega
        have hlt : (a.size : Int) < (b.size : Int) := by omega
        go_wp2
        go_ret
        exact ⟨ret_int (ct_parts hg (by rw [hend, if_pos (by omega)]) (by omega)), hw⟩
end Go.Proofs.Qxb6605349a
