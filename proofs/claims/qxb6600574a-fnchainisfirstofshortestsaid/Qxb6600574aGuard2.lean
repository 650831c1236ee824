/-
  chainTooBig (7), sameNames (14), internName (19), ZZHierarchy (10).
-/
import Derived.Test.Qxb6600574aGuard
namespace Go.Proofs.Qxb6600574a
open Go.RowKit

theorem said_other {w w' : World} {p : Prop} (h : ∃ q, w' = w.drewN q) : SaidG (.returned (.bool true)) w w' false p := ⟨true, rfl, h, fun h => by cases h⟩
theorem said_it {w w' : World} {p : Prop} (h : ∃ q, w' = w.drewN q) (hp : p) : SaidG (.returned (.bool false)) w w' false p := ⟨false, rfl, h, fun _ => hp⟩

theorem drawn_more {w wr : World} (h : ∃ q, wr = w.drewN q) (n : Nat) : ∃ q, wr.drewN n = w.drewN q := by
  obtain ⟨q, rfl⟩ := h
  exact ⟨q + n, by rw [World.drewN_drewN]⟩

set_option maxHeartbeats 4000000 in
theorem guard7 (w : World) (a0 : Option Addr) (N c0 : Nat) (F T : Nat → ByteArray) (h : LIn w a0 N F T) (a1 : Option Addr) (M c1 : Nat) (A : Nat → ByteArray) (h1 : SIn w a1 M A) (hsm : SmallIn N F T M A) (x : Nat) (hx : x ≤ 4194304) :
    Calls Try.prog 7 #[.slice a0 N c0, .slice a1 M c1, .int .i64 x] w fun e w' => SaidG e w w' false (N ≤ 4096 ∧ M ≤ 4096) := by
  obtain ⟨hN, hM, HL0, HA0⟩ := hsm
  have HL : Hid (∀ i, i < N → (F i).size ≤ 1048576 ∧ (T i).size ≤ 1048576) := HL0
  have HA : Hid (∀ i, i < M → (A i).size ≤ 1048576) := HA0
  clear HL0 HA0
  by_cases hN1 : N ≤ 4096
  · by_cases hM1 : M ≤ 4096
    · by_cases hx1 : x ≤ 1048576
      · have d1 : decide ((4096 : Int) < (N : Int)) = false := by simp; omega
        have d2 : decide ((4096 : Int) < (M : Int)) = false := by simp; omega
        have d3 : decide ((1048576 : Int) < (x : Int)) = false := by simp; omega
        go_enter Try.func7, Try.ntmps7
        go_wp2
        go_loopw [7, 8] (fun z i wr => ∃ k s : Nat, k ≤ N ∧ s ≤ 2097152 ∧ i = .int .i64 k ∧ z = .int .i64 s ∧ ∃ q, wr = w.drewN q) (fun _ i _ => N - (intOf i).toNat)
        case atStart => exact ⟨0, x + 32 * N + 16 * M, Nat.zero_le _, by omega, rfl, by go_num, 0, rfl⟩
        case round =>
          obtain ⟨k, s, hk, hs, rfl, rfl, hw⟩ := hrel
          by_cases hlt : k < N
          · obtain ⟨b, off, rfl, hc⟩ := h.outer (by omega)
            have g0 : wr.cell? ⟨b, off + k * 2, none⟩ = some (.string (F k)) := by obtain ⟨q, rfl⟩ := hw; exact (hc k hlt).1
            have g1 : wr.cell? ⟨b, off + k * 2 + 1, none⟩ = some (.string (T k)) := by obtain ⟨q, rfl⟩ := hw; exact (hc k hlt).2
            have l1 : (k : Int) < (N : Int) := by omega
            obtain ⟨hb1, hb2⟩ := HL.out k hlt
            clear hc h h1
            by_cases hS : s + ((F k).size + (T k).size) ≤ 1048576
            · go_wp2
              go_quiet (fail)
              go_wp2
              go_roundw
              case rel => exact ⟨k + 1, s + ((F k).size + (T k).size), by omega, by omega, by go_num, by go_num, drawn_more hw _⟩
              case measure => simp [intOf]; omega
            · go_wp2
              go_quiet (fail)
              go_wp2
              go_ret
              exact said_other (drawn_more hw _)
          · obtain rfl : k = N := by omega
            clear h hlt
            obtain ⟨W1, hW1⟩ : ∃ W1, W1 = wr := ⟨_, rfl⟩
            subst hW1
            go_wp2
            go_loopw [7, 9] (fun z i wr => ∃ m s : Nat, m ≤ M ∧ s ≤ 2097152 ∧ i = .int .i64 m ∧ z = .int .i64 s ∧ wr = W1) (fun _ i _ => M - (intOf i).toNat)
            case atStart => exact ⟨0, s, Nat.zero_le _, hs, rfl, rfl, rfl⟩
            case round =>
              obtain ⟨m, s, hm, hs, rfl, rfl, rfl⟩ := hrel
              by_cases hlt : m < M
              · obtain ⟨b, off, rfl, hc⟩ := h1.outer (by omega)
                have g0 : wr.cell? ⟨b, off + m, none⟩ = some (.string (A m)) := by obtain ⟨q, rfl⟩ := hw; exact hc m hlt
                have l1 : (m : Int) < (M : Int) := by omega
                have hb1 := HA.out m hlt
                clear hc h1
                by_cases hS : s + (A m).size ≤ 1048576
                · go_wp2
                  go_roundw
                  case rel => exact ⟨m + 1, s + (A m).size, by omega, by omega, by go_num, by go_num, trivial⟩
                  case measure => simp [intOf]; omega
                · go_wp2
                  go_ret
                  exact said_other hw
              · clear h1
                by_cases hS : s ≤ 1048576
                · have d4 : decide ((1048576 : Int) < (s : Int)) = false := by simp; omega
                  go_wp2
                  go_ret
                  exact said_it hw ⟨hN1, hM1⟩
                · have d4 : decide ((1048576 : Int) < (s : Int)) = true := by simp; omega
                  go_wp2
                  go_ret
                  exact said_other hw
      · clear h h1
        have d1 : decide ((4096 : Int) < (N : Int)) = false := by simp; omega
        have d2 : decide ((4096 : Int) < (M : Int)) = false := by simp; omega
        go_enter Try.func7, Try.ntmps7
        go_wp2
        go_ret
        exact said_other ⟨0, rfl⟩
    · clear h h1
      have d1 : decide ((4096 : Int) < (N : Int)) = false := by simp; omega
      go_enter Try.func7, Try.ntmps7
      go_wp2
      go_ret
      exact said_other ⟨0, rfl⟩
  · clear h h1
    go_enter Try.func7, Try.ntmps7
    go_wp2
    go_ret
    exact said_other ⟨0, rfl⟩

/-! ### sameNames -/
theorem same_nil (w : World) : Calls Try.prog 14 #[.slice none 0 0, .slice none 0 0] w fun e w' => e = .returned (.bool true) ∧ ∃ q, w' = w.drewN q := by
  have heq := fun w a n c => Lib.run_eql_slice_nil (P := Try.prog) w 23 9 a n c 0 0 Try.underlying23
  go_enter Try.func14, Try.ntmps14
  go_wp2
  go_loopw [5] (fun i wr => i = .int .i64 0 ∧ wr = w) (fun _ _ => 0)
  case atStart => exact ⟨rfl, rfl⟩
  case round =>
    obtain ⟨rfl, rfl⟩ := hrel
    go_wp2
    go_ret
    exact ⟨rfl, 0, rfl⟩

theorem neqs_same (s : ByteArray) : (s.toList != s.toList) = false := by simp

set_option maxHeartbeats 1000000 in
theorem same_some (w : World) (n b1 o1 c1 b2 o2 c2 : Nat) (S : Nat → ByteArray) (hn : n ≤ maxLen) (h1 : ∀ i, i < n → w.cell? ⟨b1, o1 + i, none⟩ = some (.string (S i))) (h2 : ∀ i, i < n → w.cell? ⟨b2, o2 + i, none⟩ = some (.string (S i))) :
    Calls Try.prog 14 #[.slice (some ⟨b1, o1, none⟩) n c1, .slice (some ⟨b2, o2, none⟩) n c2] w fun e w' => e = .returned (.bool true) ∧ ∃ q, w' = w.drewN q := by
  have heq := fun w a n c => Lib.run_eql_slice_nil (P := Try.prog) w 23 9 a n c 0 0 Try.underlying23
  have H1 : Hid (∀ i, i < n → w.cell? ⟨b1, o1 + i, none⟩ = some (.string (S i))) := h1
  have H2 : Hid (∀ i, i < n → w.cell? ⟨b2, o2 + i, none⟩ = some (.string (S i))) := h2
  clear h1 h2
  unfold maxLen at hn
  have hne : ((n : Int) != (n : Int)) = false := by simp
  go_enter Try.func14, Try.ntmps14
  go_wp2
  clear heq
  go_loopw [5] (fun i wr => ∃ k : Nat, k ≤ n ∧ i = .int .i64 k ∧ ∃ q, wr = w.drewN q) (fun i _ => n - (intOf i).toNat)
  case atStart => exact ⟨0, Nat.zero_le _, rfl, 0, rfl⟩
  case round =>
    obtain ⟨k, hk, rfl, hw⟩ := hrel
    by_cases hlt : k < n
    · have g1 : wr.cell? ⟨b1, o1 + k, none⟩ = some (.string (S k)) := by obtain ⟨q, rfl⟩ := hw; exact H1.out k hlt
      have g2 : wr.cell? ⟨b2, o2 + k, none⟩ = some (.string (S k)) := by obtain ⟨q, rfl⟩ := hw; exact H2.out k hlt
      have l1 : (k : Int) < (n : Int) := by omega
      have hs := neqs_same (S k)
      go_wp2
      go_quiet (fail)
      go_wp2
      go_roundw
      case rel => exact ⟨k + 1, by omega, by go_num, drawn_more hw _⟩
      case measure => simp [intOf]; omega
    · go_wp2
      go_ret
      exact ⟨rfl, hw⟩

/-! ### internName -/
theorem zero3 (w : World) : (zeroValue 3).run Try.prog w = .ok (.int .i64 0) w := by kernel_rfl
theorem zero9 (w : World) : (zeroValue 9).run Try.prog w = .ok (.string ⟨#[]⟩) w := by kernel_rfl
theorem zero23 (w : World) : (zeroValue 23).run Try.prog w = .ok (.slice none 0 0) w := by kernel_rfl

set_option maxHeartbeats 1000000 in
theorem intern_old (w : World) (b m : Nat) (f : ByteArray → Option Value) (h : strMap Try.prog 9 w b m f) (s : ByteArray) (hs : s.size ≤ maxLen) (id : Nat) (hid : f s = some (.int .i64 id)) :
    Calls Try.prog 19 #[.map (some b), .string s] w fun e w' => e = .returned (.int .i64 id) ∧ w' = w := by
  have k1 := h.look_ok Try.underlying9 Try.underlying43 (zero3 _) (s := s) hs
  rw [hid] at k1
  simp only [Option.getD_some, Option.isSome_some] at k1
  clear h hid
  go_enter Try.func19, Try.ntmps19
  go_wp2
  go_ret
  exact ⟨rfl, rfl⟩

set_option maxHeartbeats 1000000 in
theorem intern_new (w : World) (b m : Nat) (f : ByteArray → Option Value) (h : strMap Try.prog 9 w b m f) (s : ByteArray) (hs : s.size ≤ maxLen) (hm : m < 1048576) (hid : f s = none) :
    Calls Try.prog 19 #[.map (some b), .string s] w fun e w' => e = .returned (.int .i64 m) ∧ strMap Try.prog 9 w' b (m + 1) (fun x => if x = s then some (.int .i64 m) else f x) ∧ w.grownBy w' (some b) := by
  have k1 := h.look_ok Try.underlying9 Try.underlying43 (zero3 _) (s := s) hs
  obtain ⟨w1, hst, hmap, hturn⟩ := h.store Try.underlying9 Try.underlying43 (by unfold maxLen; omega) (s := s) hs (.int .i64 m)
  have k2 := h.len Try.underlying43
  rw [hid] at k1 hmap
  simp only [Option.getD_none, Option.isSome_none] at k1
  have hgr := hturn.grown
  clear h hid hturn
  have HM : Hid (strMap Try.prog 9 w1 b (if (none : Option Value).isSome = true then m else m + 1) (fun x => if x = s then some (.int .i64 m) else f x)) := hmap
  clear hmap
  go_enter Try.func19, Try.ntmps19
  go_wp2
  go_ret
  exact ⟨rfl, HM.out, hgr⟩

set_option maxHeartbeats 400000 in
theorem hierarchy_any (mb : Nat) (w : World) :
    Calls Try.prog 10 #[.map (some mb)] w fun e w' => e = .returned (.pointer (some ⟨w.heap.size, 0, none⟩)) ∧ w'.cell? ⟨w.heap.size, 0, none⟩ = some (.map (some mb)) ∧ Below w.heap.size w w' := by
  go_enter Try.func10, Try.ntmps10
  go_wp2
  go_ret
  exact ⟨rfl, by simp, (Below.refl _ _).alloc (Nat.le_refl _) _⟩
end Go.Proofs.Qxb6600574a
