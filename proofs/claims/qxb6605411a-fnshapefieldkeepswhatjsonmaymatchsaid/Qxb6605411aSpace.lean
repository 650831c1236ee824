/-
  THE WALKS: zzIsBlank, zzCopyBytes, space, ZZSpace, the guards.
-/
import Derived.Test.Qxb6605411aRows
import Derived.Test.Qxb6605411aPlain
import Derived.WalkKit
import Derived.Deep.OwnRows
import Derived.Deep.QuietTactic
import Derived.BigQuiet
import Derived.WalkLawsBesides
import Derived.WalkSmall
import Derived.WalkSpells
namespace Go.Proofs.Qxb6605411a
open Go.RowKit

theorem ret_int {k : IntKind} {a b : Int} (h : a = b) : Ending.returned (.int k a) = .returned (.int k b) := by rw [h]
theorem ret_bool {a b : Bool} (h : a = b) : Ending.returned (.bool a) = .returned (.bool b) := by rw [h]
theorem Try.info5 : (Try.prog.info? 5).map (fun i => (i.zero, i.size, i.bytes)) = some (some (.int .u8 0), 1, 1) := by kernel_rfl

/-- A SLICE OF n BYTES IN THE WORLD w: where it has an element, its cells hold the numbers Z 0, Z 1, ... -/
def Bytes (w : World) (a : Option Addr) (n : Nat) (Z : Nat → Int) : Prop :=
  0 < n → ∃ b off, a = some ⟨b, off, none⟩ ∧ ∀ i, i < n → w.cell? ⟨b, off + i, none⟩ = some (.int .u8 (Z i))

set_option maxHeartbeats 400000 in
theorem blank_any (z : Int) (w : World) :
    Calls Try.prog 10 #[.int .u8 z] w fun e w' => e = .returned (.bool (blank z)) ∧ w' = w := by
  by_cases h1 : (z == 32) = true
  · go_enter Try.func10, Try.ntmps10
    go_wp2
    go_ret
    exact ⟨ret_bool (by simp [blank, h1]), rfl⟩
  · by_cases h2 : (z == 9) = true
    · have h1' : (z == 32) = false := by simpa using h1
      go_enter Try.func10, Try.ntmps10
      go_wp2
      go_ret
      exact ⟨ret_bool (by simp [blank, h2]), rfl⟩
    · by_cases h3 : (z == 10) = true
      · have h1' : (z == 32) = false := by simpa using h1
        have h2' : (z == 9) = false := by simpa using h2
        go_enter Try.func10, Try.ntmps10
        go_wp2
        go_ret
        exact ⟨ret_bool (by simp [blank, h3]), rfl⟩
      · have h1' : (z == 32) = false := by simpa using h1
        have h2' : (z == 9) = false := by simpa using h2
        have h3' : (z == 10) = false := by simpa using h3
        go_enter Try.func10, Try.ntmps10
        go_wp2
        go_ret
        exact ⟨ret_bool (by simp [blank, h1', h2', h3']), rfl⟩

/-- Halfway: k elements are copied. -/
def half (Z : Nat → Int) (k i : Nat) : Value := if i < k then .int .u8 (Z i) else .int .u8 0

theorem half_step {w : World} {B n k : Nat} {Z : Nat → Int} (h : w.rowIs B 5 n (half Z k)) : (w.setCell ⟨B, k, none⟩ (.int .u8 (Z k))).rowIs B 5 n (half Z (k + 1)) := by
  refine (h.set k _).congr fun i _ => ?_
  unfold half
  by_cases e : i = k
  · subst e; simp
  · simp only [e, if_false]
    by_cases h : i < k
    · rw [if_pos h, if_pos (by omega)]
    · rw [if_neg h, if_neg (by omega)]

set_option maxHeartbeats 1000000 in
theorem copy_some (x : Addr) (n c : Nat) (Z : Nat → Int) (hn : n ≤ 1048576) (w : World) (h : Bytes w (some x) n Z) :
    Calls Try.prog 8 #[.slice (some x) n c] w fun e w' => e = .returned (.slice (some ⟨w.heap.size, 0, none⟩) n n) ∧ w'.rowIs w.heap.size 5 n (fun i => .int .u8 (Z i)) ∧ w'.heap.size = w.heap.size + 1 ∧ Below w.heap.size w w' := by
  have hmk := run_make_row' (P := Try.prog) 22 5 (.int .u8 0) 1 Try.underlying22 Try.info5 rfl .i64 .i64 n (by omega) (by omega)
  have heq := fun w a n c => Lib.run_eql_slice_nil (P := Try.prog) w 22 5 a n c 0 0 Try.underlying22
  go_enter Try.func8, Try.ntmps8
  go_wp2
  clear hmk heq
  go_loopw [4] (fun i wr => ∃ k : Nat, k ≤ n ∧ i = .int .i64 k ∧ wr.rowIs w.heap.size 5 n (half Z k) ∧ wr.heap.size = w.heap.size + 1 ∧ Below w.heap.size w wr) (fun i _ => n - (intOf i).toNat)
  case atStart => exact ⟨0, Nat.zero_le _, rfl, (World.rowIs_made w _ n 5).congr (fun i _ => by simp [half]), by simp, (Below.refl _ _).alloc (Nat.le_refl _) _⟩
  case round =>
    obtain ⟨k, hk, rfl, hrow, hsz, hb⟩ := hrel
    by_cases hlt : k < n
    · obtain ⟨b, off, hx, hc⟩ := h (by omega)
      simp only [Option.some.injEq] at hx
      subst hx
      have hblt : b < w.heap.size := World.block_lt_of_cell? _ _ (hc k hlt)
      have g0 : wr.cell? ⟨b, off + k, none⟩ = some (.int .u8 (Z k)) := (hb.cell (p := ⟨b, off + k, none⟩) hblt).trans (hc k hlt)
      have g1 : wr.cell? ⟨w.heap.size, k, none⟩ = some (.int .u8 0) := by have := hrow.cell hlt; simpa [half] using this
      have g2 : wr.frozen? ⟨w.heap.size, k, none⟩ = false := hrow.frozen k
      have hlt' : (k : Int) < (n : Int) := by omega
      clear hc
      go_wp2
      go_roundw
      case rel => exact ⟨k + 1, by omega, by go_num, half_step hrow, by simp [hsz], hb.setCell (p := ⟨w.heap.size, k, none⟩) (Nat.le_refl _) _⟩
      case measure => simp [intOf]; omega
    · have hkn : k = n := by omega
      subst hkn
      go_wp2
      go_ret
      exact ⟨rfl, hrow.congr (fun i hi => by simp [half, hi]), hsz, hb⟩

theorem copy_nil (w : World) : Calls Try.prog 8 #[.slice none 0 0] w fun e w' => e = .returned (.slice none 0 0) ∧ w' = w := by
  have heq := fun w a n c => Lib.run_eql_slice_nil (P := Try.prog) w 22 5 a n c 0 0 Try.underlying22
  go_enter Try.func8, Try.ntmps8
  go_wp2
  go_ret
  exact ⟨rfl, rfl⟩

set_option maxHeartbeats 1000000 in
theorem space_any (a : Option Addr) (n c i : Nat) (Z : Nat → Int) (hn : n ≤ 1048576) (hi : i ≤ 9223372036854775807) (w : World) (h : Bytes w a n Z) :
    Calls Try.prog 23 #[.slice a n c, .int .i64 i] w fun e w' => e = .returned (.int .i64 (sp Z n i)) ∧ w' = w := by
  go_enter Try.func23, Try.ntmps23
  go_wp2
  go_loop [1] (fun t => ∃ j : Nat, i ≤ j ∧ j ≤ 9223372036854775807 ∧ t = .int .i64 j ∧ Hid (sp Z n i = sp Z n j)) (fun t => n - (intOf t).toNat)
  case atStart => exact ⟨i, Nat.le_refl _, hi, rfl, (rfl : sp Z n i = sp Z n i)⟩
  case round =>
    obtain ⟨j, hij, hj, rfl, hg⟩ := hrel
    by_cases hlt : j < n
    · obtain ⟨b, off, rfl, hc⟩ := h (by omega)
      have g0 := hc j hlt
      have hlt' : (j : Int) < (n : Int) := by omega
      clear hc
      go_wp2
      · have hb : blank (Z j) = true := by have t : (Z j == 32) = true := by assumption
                                           simp [blank, t]
        go_round
        case rel => exact ⟨j + 1, by omega, by omega, by go_num, hg.out.trans (sp_yes Z n j hlt hb)⟩
        case measure => simp [intOf]; omega
      · have hb : blank (Z j) = true := by have t : (Z j == 9) = true := by assumption
                                           simp [blank, t]
        go_round
        case rel => exact ⟨j + 1, by omega, by omega, by go_num, hg.out.trans (sp_yes Z n j hlt hb)⟩
        case measure => simp [intOf]; omega
      · have hb : blank (Z j) = true := by have t : (Z j == 10) = true := by assumption
                                           simp [blank, t]
        go_round
        case rel => exact ⟨j + 1, by omega, by omega, by go_num, hg.out.trans (sp_yes Z n j hlt hb)⟩
        case measure => simp [intOf]; omega
      · have hb : blank (Z j) = true := by have t : (Z j == 13) = true := by assumption
                                           simp [blank, t]
        go_round
        case rel => exact ⟨j + 1, by omega, by omega, by go_num, hg.out.trans (sp_yes Z n j hlt hb)⟩
        case measure => simp [intOf]; omega
      · have t1 : (Z j == 32) = false := by assumption
        have t2 : (Z j == 9) = false := by assumption
        have t3 : (Z j == 10) = false := by assumption
        have t4 : (Z j == 13) = false := by assumption
        go_ret
        exact ⟨ret_int (by rw [hg.out, sp_no Z n j hlt (by simp only [blank, t1, t2, t3, t4]; rfl)]), rfl⟩
    · go_wp2
      go_ret
      exact ⟨ret_int (by rw [hg.out, sp_past Z n j (by omega)]), rfl⟩

theorem zzspace_any (a : Option Addr) (n c i : Nat) (Z : Nat → Int) (hn : n ≤ 1048576) (hi : i ≤ 9223372036854775807) (w : World) (h : Bytes w a n Z) :
    Calls Try.prog 9 #[.slice a n c, .int .i64 i] w fun e w' => e = .returned (.int .i64 (sp Z n i)) ∧ w' = w := by
  go_enter Try.func9, Try.ntmps9
  go_wp2_with fail
  refine (space_any a n c i Z hn hi _ h).mono ?_
  rintro e w' ⟨rfl, rfl⟩
  go_wp2_with fail
  go_ret
  exact ⟨rfl, rfl⟩

theorem bytes7_yes (a : Option Addr) (n c : Nat) (i : Int) (h : n ≤ 1048576) (w : World) :
    Calls Try.prog 7 #[.slice a n c, .int .i64 i] w fun e w' => e = .returned (.bool true) ∧ w' = w := by
  go_enter Try.func7, Try.ntmps7
  go_wp2
  go_ret
  exact ⟨rfl, rfl⟩

theorem bytes7_no (a : Option Addr) (n c : Nat) (i : Int) (wn : n ≤ maxLen) (h : ¬ n ≤ 1048576) (w : World) :
    Calls Try.prog 7 #[.slice a n c, .int .i64 i] w fun e w' => e = .returned (.bool false) ∧ w' = w := by
  unfold maxLen at wn
  go_enter Try.func7, Try.ntmps7
  go_wp2
  go_ret
  exact ⟨rfl, rfl⟩

theorem bytes11_yes (a : Option Addr) (n c : Nat) (i : Int) (h : n ≤ 1048576) (w : World) :
    Calls Try.prog 11 #[.slice a n c, .int .i64 i] w fun e w' => e = .returned (.bool true) ∧ w' = w := by
  go_enter Try.func11, Try.ntmps11
  go_wp2
  go_ret
  exact ⟨rfl, rfl⟩

theorem bytes11_no (a : Option Addr) (n c : Nat) (i : Int) (wn : n ≤ maxLen) (h : ¬ n ≤ 1048576) (w : World) :
    Calls Try.prog 11 #[.slice a n c, .int .i64 i] w fun e w' => e = .returned (.bool false) ∧ w' = w := by
  unfold maxLen at wn
  go_enter Try.func11, Try.ntmps11
  go_wp2
  go_ret
  exact ⟨rfl, rfl⟩

/-- zzCopyBytes, nil or not. -/
theorem copy_any (a : Option Addr) (n c : Nat) (Z : Nat → Int) (hn : n ≤ 1048576) (hnil : a = none → n = 0 ∧ c = 0) (w : World) (h : Bytes w a n Z) :
    Calls Try.prog 8 #[.slice a n c] w fun e w' => ∃ a' c', e = .returned (.slice a' n c') ∧ Bytes w' a' n Z ∧ Below w.heap.size w w' := by
  cases a with
  | none =>
    obtain ⟨rfl, rfl⟩ := hnil rfl
    refine (copy_nil w).mono ?_
    rintro e w' ⟨rfl, rfl⟩
    exact ⟨none, 0, rfl, h, Below.refl _ _⟩
  | some x =>
    refine (copy_some x n c Z hn w h).mono ?_
    rintro e w' ⟨rfl, hrow, _, hb⟩
    exact ⟨_, _, rfl, fun _ => ⟨_, _, rfl, fun i hi => by have := hrow.cell hi; simpa using this⟩, hb⟩
end Go.Proofs.Qxb6605411a
