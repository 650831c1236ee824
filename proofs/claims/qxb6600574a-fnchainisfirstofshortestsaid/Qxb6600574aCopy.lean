/-
  copyLinks (8), copyNames (9).
-/
import Derived.Test.Qxb6600574aBase
namespace Go.Proofs.Qxb6600574a
open Go.RowKit

theorem LIn.below {w w' : World} {a0 : Option Addr} {N : Nat} {F T : Nat → ByteArray} (h : LIn w a0 N F T) (hb : Below w.heap.size w w') : LIn w' a0 N F T := by
  refine ⟨fun h0 => ?_, h.big⟩
  obtain ⟨b, off, ha, hc⟩ := h.outer h0
  exact ⟨b, off, ha, fun i hi => ⟨(hb.cell (p := ⟨b, off + i * 2, none⟩) (World.block_lt_of_cell? _ _ (hc i hi).1)).trans (hc i hi).1, (hb.cell (p := ⟨b, off + i * 2 + 1, none⟩) (World.block_lt_of_cell? _ _ (hc i hi).2)).trans (hc i hi).2⟩⟩

theorem SIn.below {w w' : World} {a0 : Option Addr} {N : Nat} {S : Nat → ByteArray} (h : SIn w a0 N S) (hb : Below w.heap.size w w') : SIn w' a0 N S := by
  refine ⟨fun h0 => ?_, h.big⟩
  obtain ⟨b, off, ha, hc⟩ := h.outer h0
  exact ⟨b, off, ha, fun i hi => (hb.cell (p := ⟨b, off + i, none⟩) (World.block_lt_of_cell? _ _ (hc i hi))).trans (hc i hi)⟩

theorem Try.info37 : (Try.prog.info? 37).map (fun i => (i.zero.map Value.cells, i.size, i.bytes)) = some (some #[.string ⟨#[]⟩, .string ⟨#[]⟩], 2, 32) := by kernel_rfl

theorem make_links (n : Nat) (hn : n ≤ 1048576) (w : World) : (Instr.makeSlice 22 (.int .i64 (n : Int)) (.int .i64 (n : Int))).run Try.prog w = .ok (.slice (some ⟨w.heap.size, 0, none⟩) n n) (w.alloc (.cells (madeCells #[.string ⟨#[]⟩, .string ⟨#[]⟩] (n * 2)) 37)) := by
  obtain ⟨i, hi, hzz⟩ := Option.map_eq_some_iff.1 Try.info37
  simp only [Prod.mk.injEq] at hzz
  obtain ⟨hz, hs, hb⟩ := hzz
  obtain ⟨z, hz, hzc⟩ := Option.map_eq_some_iff.1 hz
  have hr := run_make (P := Try.prog) w 22 37 i z Try.underlying22 hi hz .i64 .i64 n n (by omega) (Int.le_refl _) (by rw [hb]; omega) (by omega)
  simp only [Int.toNat_natCast, hs, hzc] at hr
  exact hr

def half (S : Nat → ByteArray) (k i : Nat) : Value := if i < k then .string (S i) else .string ⟨#[]⟩

theorem half_step {w : World} {B n k : Nat} {S : Nat → ByteArray} (h : w.rowIs B 9 n (half S k)) : (w.setCell ⟨B, k, none⟩ (.string (S k))).rowIs B 9 n (half S (k + 1)) := by
  refine (h.set k _).congr fun i _ => ?_
  unfold half
  by_cases e : i = k
  · subst e; simp
  · simp only [e, if_false]
    by_cases h : i < k
    · rw [if_pos h, if_pos (by omega)]
    · rw [if_neg h, if_neg (by omega)]

set_option maxHeartbeats 1000000 in
theorem copy_names (w : World) (a : Option Addr) (M c : Nat) (A : Nat → ByteArray) (h : SIn w a M A) (hM : M ≤ 1048576) (hnil : Hid (a = none → M = 0)) :
    Calls Try.prog 9 #[.slice a M c] w fun e w' => ∃ a' c', e = .returned (.slice a' M c') ∧ SIn w' a' M A ∧ Below w.heap.size w w' := by
  have hmk := run_make_row' (P := Try.prog) 23 9 (.string ⟨#[]⟩) 16 Try.underlying23 Try.info9 rfl .i64 .i64 M (by omega) (by omega)
  have heq := fun w a n c => Lib.run_eql_slice_nil (P := Try.prog) w 23 9 a n c 0 0 Try.underlying23
  cases a with
  | none =>
    have hM0 : Hid (M = 0) := hnil.out rfl
    clear hmk hnil h
    go_enter Try.func9, Try.ntmps9
    go_wp2
    go_ret
    have := hM0.out
    subst this
    exact ⟨none, 0, rfl, ⟨fun h => by omega, fun i h => by omega⟩, Below.refl _ _⟩
  | some x =>
    clear hnil
    go_enter Try.func9, Try.ntmps9
    go_wp2
    clear hmk heq
    go_loopw [4] (fun i wr => ∃ k : Nat, k ≤ M ∧ i = .int .i64 k ∧ wr.rowIs w.heap.size 9 M (half A k) ∧ Below w.heap.size w wr) (fun i _ => M - (intOf i).toNat)
    case atStart => exact ⟨0, Nat.zero_le _, rfl, (World.rowIs_made w _ M 9).congr (fun i _ => by simp [half]), (Below.refl _ _).alloc (Nat.le_refl _) _⟩
    case round =>
      obtain ⟨k, hk, rfl, hrow, hb⟩ := hrel
      by_cases hlt : k < M
      · obtain ⟨b, off, hx, hc⟩ := h.outer (by omega)
        simp only [Option.some.injEq] at hx
        subst hx
        have hblt : b < w.heap.size := World.block_lt_of_cell? _ _ (hc k hlt)
        have g0 : wr.cell? ⟨b, off + k, none⟩ = some (.string (A k)) := (hb.cell (p := ⟨b, off + k, none⟩) hblt).trans (hc k hlt)
        have g1 : wr.cell? ⟨w.heap.size, k, none⟩ = some (.string ⟨#[]⟩) := by have := hrow.cell hlt; simpa [half] using this
        have g2 : wr.frozen? ⟨w.heap.size, k, none⟩ = false := hrow.frozen k
        have hlt' : (k : Int) < (M : Int) := by omega
        clear hc
        go_wp2
        go_roundw
        case rel => exact ⟨k + 1, by omega, by go_num, half_step hrow, hb.setCell (p := ⟨w.heap.size, k, none⟩) (Nat.le_refl _) _⟩
        case measure => simp [intOf]; omega
      · have hkn : k = M := by omega
        subst hkn
        go_wp2
        go_ret
        refine ⟨_, _, rfl, ⟨fun h0 => ⟨_, 0, rfl, fun i hi => ?_⟩, h.big⟩, hb⟩
        rw [Nat.zero_add, hrow.cell hi]
        simp [half, hi]

def half2 (F T : Nat → ByteArray) (k i : Nat) : Value := if i < k * 2 then (if i % 2 = 0 then .string (F (i / 2)) else .string (T (i / 2))) else .string ⟨#[]⟩

theorem half2_step {w : World} {B n k : Nat} {F T : Nat → ByteArray} (h : w.rowIs B 37 n (half2 F T k)) :
    ((w.setCell ⟨B, k * 2, none⟩ (.string (F k))).setCell ⟨B, k * 2 + 1, none⟩ (.string (T k))).rowIs B 37 n (half2 F T (k + 1)) := by
  refine ((h.set (k * 2) _).set (k * 2 + 1) _).congr fun i _ => ?_
  unfold half2
  by_cases e : i = k * 2 + 1
  · subst e
    have e1 : (k * 2 + 1) / 2 = k := by omega
    have e2 : (k * 2 + 1) % 2 = 1 := by omega
    simp only [if_true, e1, e2]
    rw [if_pos (by omega), if_neg (by omega)]
  · simp only [e, if_false]
    by_cases e' : i = k * 2
    · subst e'
      have e1 : (k * 2) / 2 = k := by omega
      have e2 : (k * 2) % 2 = 0 := by omega
      simp only [if_true, e1, e2]
      rw [if_pos (by omega)]
    · simp only [e', if_false]
      by_cases h : i < k * 2
      · have h' : i < (k + 1) * 2 := by omega
        simp only [h, h', if_true]
      · have h' : ¬ i < (k + 1) * 2 := by omega
        simp only [h, h', if_false]

theorem rowIs_made2 (w : World) (n : Nat) : (w.alloc (.cells (madeCells #[.string ⟨#[]⟩, .string ⟨#[]⟩] (n * 2)) 37)).rowIs w.heap.size 37 (n * 2) (fun _ => .string ⟨#[]⟩) :=
  ⟨_, Deep.blk_alloc_new _ _, size_madeCells _ _, fun i hi => by
    have h2 : i % 2 = 0 ∨ i % 2 = 1 := by omega
    rcases h2 with h2 | h2 <;> simp [madeCells, hi, h2]⟩

set_option maxHeartbeats 1000000 in
theorem copy_links (w : World) (a : Option Addr) (N c : Nat) (F T : Nat → ByteArray) (h : LIn w a N F T) (hN : N ≤ 1048576) (hnil : Hid (a = none → N = 0)) :
    Calls Try.prog 8 #[.slice a N c] w fun e w' => ∃ a' c', e = .returned (.slice a' N c') ∧ LIn w' a' N F T ∧ Below w.heap.size w w' := by
  have hmk := make_links N hN
  have heq := fun w a n c => Lib.run_eql_slice_nil (P := Try.prog) w 22 37 a n c 0 0 Try.underlying22
  cases a with
  | none =>
    have hM0 : Hid (N = 0) := hnil.out rfl
    clear hmk hnil h
    go_enter Try.func8, Try.ntmps8
    go_wp2
    go_ret
    have := hM0.out
    subst this
    exact ⟨none, 0, rfl, ⟨fun h => by omega, fun i h => by omega⟩, Below.refl _ _⟩
  | some x =>
    clear hnil
    go_enter Try.func8, Try.ntmps8
    go_wp2
    clear hmk heq
    go_loopw [4] (fun i wr => ∃ k : Nat, k ≤ N ∧ i = .int .i64 k ∧ wr.rowIs w.heap.size 37 (N * 2) (half2 F T k) ∧ Below w.heap.size w wr) (fun i _ => N - (intOf i).toNat)
    case atStart => exact ⟨0, Nat.zero_le _, rfl, (rowIs_made2 w N).congr (fun i _ => by simp [half2]), (Below.refl _ _).alloc (Nat.le_refl _) _⟩
    case round =>
      obtain ⟨k, hk, rfl, hrow, hb⟩ := hrel
      by_cases hlt : k < N
      · obtain ⟨b, off, hx, hc⟩ := h.outer (by omega)
        simp only [Option.some.injEq] at hx
        subst hx
        have hblt : b < w.heap.size := World.block_lt_of_cell? _ _ (hc k hlt).1
        have g0 : wr.cell? ⟨b, off + k * 2, none⟩ = some (.string (F k)) := (hb.cell (p := ⟨b, off + k * 2, none⟩) hblt).trans (hc k hlt).1
        have g1 : wr.cell? ⟨b, off + k * 2 + 1, none⟩ = some (.string (T k)) := (hb.cell (p := ⟨b, off + k * 2 + 1, none⟩) hblt).trans (hc k hlt).2
        have g2 : wr.cell? ⟨w.heap.size, k * 2, none⟩ = some (.string ⟨#[]⟩) := by have := hrow.cell (i := k * 2) (by omega); simpa [half2] using this
        have g3 : wr.cell? ⟨w.heap.size, k * 2 + 1, none⟩ = some (.string ⟨#[]⟩) := by have := hrow.cell (i := k * 2 + 1) (by omega); rw [this]; unfold half2; rw [if_neg (by omega)]
        have g4 : wr.frozen? ⟨w.heap.size, k * 2, none⟩ = false := hrow.frozen _
        have g5 : wr.frozen? ⟨w.heap.size, k * 2 + 1, none⟩ = false := hrow.frozen _
        have hlt' : (k : Int) < (N : Int) := by omega
        clear hc
        go_wp2
        go_roundw
        case rel => exact ⟨k + 1, by omega, by go_num, half2_step hrow, (hb.setCell (p := ⟨w.heap.size, k * 2, none⟩) (Nat.le_refl _) _).setCell (p := ⟨w.heap.size, k * 2 + 1, none⟩) (Nat.le_refl _) _⟩
        case measure => simp [intOf]; omega
      · have hkn : k = N := by omega
        subst hkn
        go_wp2
        go_ret
        refine ⟨_, _, rfl, ⟨fun h0 => ⟨_, 0, rfl, fun i hi => ⟨?_, ?_⟩⟩, h.big⟩, hb⟩
        · have e1 : (i * 2) / 2 = i := by omega
          rw [Nat.zero_add, hrow.cell (i := i * 2) (by omega)]
          unfold half2
          rw [if_pos (by omega), if_pos (by omega), e1]
        · have e1 : (i * 2 + 1) / 2 = i := by omega
          rw [Nat.zero_add, hrow.cell (i := i * 2 + 1) (by omega)]
          unfold half2
          rw [if_pos (by omega), if_neg (by omega), e1]
end Go.Proofs.Qxb6600574a
