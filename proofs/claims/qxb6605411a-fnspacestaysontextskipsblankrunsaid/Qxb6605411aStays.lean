/-
  THE WALK OF FnSpaceStaysOnTextSkipsBlankRun.
-/
import Derived.Test.Qxb6605411aSpace
namespace Go.Proofs.Qxb6605411a.fnSpaceStaysOnTextSkipsBlankRun
open Go.RowKit

theorem zzspace_at {a : Option Addr} {n c i r : Nat} {Z : Nat → Int} (hr : sp Z n i = r) (hn : n ≤ 1048576) (hi : i ≤ 9223372036854775807) (w : World) (h : Bytes w a n Z) :
    Calls Try.prog 9 #[.slice a n c, .int .i64 i] w fun e w' => e = .returned (.int .i64 r) ∧ w' = w := by
  rw [← hr]; exact zzspace_any a n c i Z hn hi w h

set_option maxHeartbeats 1000000 in
/-- At white space. -/
theorem walk_blank (a0 : Option Addr) (n c i r : Nat) (Z : Nat → Int) (w : World) (hn : n ≤ 1048576) (hnil : a0 = none → n = 0 ∧ c = 0) (h : Bytes w a0 n Z)
    (hin : i < n) (hbz : blank (Z i) = true) (k1 : Hid (sp Z n i = r)) (k2 : Hid (sp Z n (i + 1) = r)) (k3 : Hid (sp Z n r = r)) (hir : i < r) (hrn : r ≤ n) :
    Calls Try.prog 4 #[.slice a0 n c, .int .i64 i] w fun e w' => e = .returned (.bool true) ∧ Below w.heap.size w w' := by
  have hin' : (i : Int) < (n : Int) := by omega
  go_enter Try.func4, Try.ntmps4
  go_wp2_with fail
  refine (bytes11_yes a0 n c i hn _).mono ?_
  rintro e w' ⟨rfl, rfl⟩
  go_wp2_with fail
  refine (copy_any a0 n c Z hn hnil _ h).mono ?_
  rintro e w1 ⟨a', c', rfl, h1, hb⟩
  clear h
  go_wp2_with fail
  refine (zzspace_at k1.out hn (by omega) _ h1).mono ?_
  rintro e w2 ⟨rfl, rfl⟩
  obtain ⟨b, off, rfl, hc⟩ := h1 (by omega)
  have g0 := hc i hin
  clear hc
  go_wp2_with fail
  refine (blank_any _ _).mono ?_
  rintro e w3 ⟨rfl, rfl⟩
  go_wp2_with fail
  refine (zzspace_at (i := i + 1) k2.out hn (by omega) _ h1).mono ?_
  rintro e w2 ⟨rfl, rfl⟩
  go_wp2_with fail
  refine (zzspace_at k3.out hn (by omega) _ h1).mono ?_
  rintro e w2 ⟨rfl, rfl⟩
  go_wp2_with fail
  go_ret
  exact ⟨rfl, hb⟩

set_option maxHeartbeats 1000000 in
/-- At text. -/
theorem walk_text (a0 : Option Addr) (n c i : Nat) (Z : Nat → Int) (w : World) (hn : n ≤ 1048576) (hnil : a0 = none → n = 0 ∧ c = 0) (h : Bytes w a0 n Z)
    (hin : i < n) (hbz : blank (Z i) = false) (k1 : Hid (sp Z n i = i)) :
    Calls Try.prog 4 #[.slice a0 n c, .int .i64 i] w fun e w' => e = .returned (.bool true) ∧ Below w.heap.size w w' := by
  have hin' : (i : Int) < (n : Int) := by omega
  go_enter Try.func4, Try.ntmps4
  go_wp2_with fail
  refine (bytes11_yes a0 n c i hn _).mono ?_
  rintro e w' ⟨rfl, rfl⟩
  go_wp2_with fail
  refine (copy_any a0 n c Z hn hnil _ h).mono ?_
  rintro e w1 ⟨a', c', rfl, h1, hb⟩
  clear h
  go_wp2_with fail
  refine (zzspace_at k1.out hn (by omega) _ h1).mono ?_
  rintro e w2 ⟨rfl, rfl⟩
  obtain ⟨b, off, rfl, hc⟩ := h1 (by omega)
  have g0 := hc i hin
  clear hc
  go_wp2_with fail
  refine (blank_any _ _).mono ?_
  rintro e w3 ⟨rfl, rfl⟩
  go_wp2_with fail
  refine (zzspace_at k1.out hn (by omega) _ h1).mono ?_
  rintro e w2 ⟨rfl, rfl⟩
  go_wp2_with fail
  go_ret
  exact ⟨rfl, hb⟩

set_option maxHeartbeats 1000000 in
/-- At the end or past it. -/
theorem walk_past (a0 : Option Addr) (n c i : Nat) (Z : Nat → Int) (w : World) (hn : n ≤ 1048576) (hi : i ≤ 9223372036854775807) (hnil : a0 = none → n = 0 ∧ c = 0) (h : Bytes w a0 n Z)
    (hin : ¬ i < n) (k1 : Hid (sp Z n i = i)) :
    Calls Try.prog 4 #[.slice a0 n c, .int .i64 i] w fun e w' => e = .returned (.bool true) ∧ Below w.heap.size w w' := by
  have hin' : ¬ (i : Int) < (n : Int) := by omega
  go_enter Try.func4, Try.ntmps4
  go_wp2_with fail
  refine (bytes11_yes a0 n c i hn _).mono ?_
  rintro e w' ⟨rfl, rfl⟩
  go_wp2_with fail
  refine (copy_any a0 n c Z hn hnil _ h).mono ?_
  rintro e w1 ⟨a', c', rfl, h1, hb⟩
  clear h
  go_wp2_with fail
  refine (zzspace_at k1.out hn hi _ h1).mono ?_
  rintro e w2 ⟨rfl, rfl⟩
  go_wp2_with fail
  refine (zzspace_at k1.out hn hi _ h1).mono ?_
  rintro e w2 ⟨rfl, rfl⟩
  go_wp2_with fail
  go_ret
  exact ⟨rfl, hb⟩

theorem walk_in (a0 : Option Addr) (n c i : Nat) (Z : Nat → Int) (w : World) (hn : n ≤ 1048576) (hi : i ≤ 9223372036854775807) (hnil : a0 = none → n = 0 ∧ c = 0) (h : Bytes w a0 n Z) :
    Calls Try.prog 4 #[.slice a0 n c, .int .i64 i] w fun e w' => e = .returned (.bool true) ∧ Below w.heap.size w w' := by
  by_cases hin : i < n
  · cases hbz : blank (Z i)
    · exact walk_text a0 n c i Z w hn hnil h hin hbz (sp_no Z n i hin hbz)
    · have e := sp_yes Z n i hin hbz
      have h1 := sp_ge Z n (i + 1)
      exact walk_blank a0 n c i _ Z w hn hnil h hin hbz rfl e.symm (sp_idem Z n i) (by omega) (sp_le Z n i (by omega))
  · exact walk_past a0 n c i Z w hn hi hnil h hin (sp_past Z n i (by omega))
end Go.Proofs.Qxb6605411a.fnSpaceStaysOnTextSkipsBlankRun
