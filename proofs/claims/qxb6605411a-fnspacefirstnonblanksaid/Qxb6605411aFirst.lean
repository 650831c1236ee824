/-
  THE WALK OF FnSpaceFirstNonBlank.
-/
import Derived.Test.Qxb6605411aSpace
namespace Go.Proofs.Qxb6605411a.fnSpaceFirstNonBlank
open Go.RowKit

set_option maxHeartbeats 1000000 in
theorem walk_in (a0 : Option Addr) (n c i : Nat) (Z : Nat → Int) (w : World) (hn : n ≤ 1048576) (hi : i ≤ 9223372036854775807) (hnil : a0 = none → n = 0 ∧ c = 0) (h : Bytes w a0 n Z) :
    Calls Try.prog 3 #[.slice a0 n c, .int .i64 i] w fun e w' => e = .returned (.bool true) ∧ Below w.heap.size w w' := by
  have d1 : decide ((1048576 : Int) < (n : Int)) = false := by simp; omega
  have d2 : decide ((i : Int) < 0) = false := by simp
  go_enter Try.func3, Try.ntmps3
  go_wp2_with fail
  refine (bytes7_yes a0 n c i hn _).mono ?_
  rintro e w' ⟨rfl, hw'⟩
  obtain rfl := hw'.symm
  go_wp2_with fail
  refine (copy_any a0 n c Z hn hnil _ h).mono ?_
  rintro e w1 ⟨a', c', rfl, h1, hb⟩
  clear h
  go_wp2_with fail
  refine (zzspace_any a' n c' i Z hn hi _ h1).mono ?_
  rintro e w2 ⟨rfl, rfl⟩
  have hge := sp_ge Z n i
  by_cases hin : n < i
  · have d3 : decide ((n : Int) < (i : Int)) = true := by simp; omega
    rw [sp_past Z n i (by omega)]
    go_wp2
    go_ret
    exact ⟨rfl, hb⟩
  · have hle := sp_le Z n i (by omega)
    have hbl := sp_blank Z n i
    have hst := sp_stop Z n i (by omega)
    generalize sp Z n i = r at *
    have Hbl : Hid (∀ j, i ≤ j → j < r → blank (Z j) = true) := hbl
    have Hst : Hid (r = n ∨ blank (Z r) = false) := hst
    clear hbl hst
    have d3 : decide ((n : Int) < (i : Int)) = false := by simp; omega
    have d4 : decide (r < i) = false := by simp; omega
    have d5 : decide (n < r) = false := by simp; omega
    go_wp2
    go_loopw [7] (fun t wr => ∃ j : Nat, i ≤ j ∧ j ≤ r ∧ t = .int .i64 j ∧ Bytes wr a' n Z ∧ Below w.heap.size w wr) (fun t _ => r - (intOf t).toNat)
    case atStart => exact ⟨i, Nat.le_refl _, hge, rfl, h1, hb⟩
    case round =>
      clear h1 hb
      obtain ⟨j, hij, hjr, rfl, h1, hb⟩ := hrel
      by_cases hlt : j < r
      · obtain ⟨b, off, rfl, hc⟩ := h1 (by omega)
        have g0 := hc j (by omega)
        have hjn : (j : Int) < (n : Int) := by omega
        have hjr' : (j : Int) < (r : Int) := by omega
        have hbz := Hbl.out j hij hlt
        clear hc
        go_wp2_with fail
        refine (blank_any _ _).mono ?_
        rintro e w2 ⟨rfl, rfl⟩
        go_wp2_with fail
        go_roundw
        case rel => exact ⟨j + 1, by omega, by omega, by go_num, h1, hb⟩
        case measure => simp [intOf]; omega
      · by_cases hrn : r = n
        · have hrn' : ((r : Int) == (n : Int)) = true := by simp; omega
          clear hrn
          go_wp2_with fail
          go_ret
          exact ⟨rfl, hb⟩
        · have hrn' : ((r : Int) == (n : Int)) = false := by simp; omega
          obtain ⟨b, off, rfl, hc⟩ := h1 (by omega)
          have g0 := hc r (by omega)
          have hrl : (r : Int) < (n : Int) := by omega
          have hbz : blank (Z r) = false := Hst.out.resolve_left hrn
          clear hc hrn
          go_wp2_with fail
          refine (blank_any _ _).mono ?_
          rintro e w2 ⟨rfl, rfl⟩
          go_wp2_with fail
          go_ret
          exact ⟨rfl, hb⟩

end Go.Proofs.Qxb6605411a.fnSpaceFirstNonBlank
