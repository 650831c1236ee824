/-
  (*keysGiven).again.
-/
import Derived.Test.Qxb6605411aKeyAt
namespace Go.Proofs.Qxb6605411a
open Go.RowKit

theorem up_drewN {w wr : World} (h : ∃ q, wr = w.drewN q) (n : Nat) : ∃ q, wr.drewN n = w.drewN q := by
  obtain ⟨q, rfl⟩ := h
  exact ⟨q + n, by rw [World.drewN_drewN]⟩

theorem cell_drawn {w wr : World} (h : ∃ q, wr = w.drewN q) (p : Addr) : wr.cell? p = w.cell? p := by obtain ⟨q, rfl⟩ := h; rfl

theorem key_drawn {H : Nat} {w wr : World} (h : ∃ q, wr = w.drewN q) {a : Option Addr} {n : Nat} {t : ByteArray} (k : KeyAt H w a n t) : KeyAt H wr a n t := by obtain ⟨q, rfl⟩ := h; exact k

set_option maxHeartbeats 1000000 in
/-- The key is among the few. -/
theorem again_few (H G m : Nat) (A : Nat → Option Addr) (N C : Nat → Nat) (K : Nat → ByteArray) (ka : Option Addr) (kn kc : Nat) (t : ByteArray) (w : World)
    (hm : m ≤ 32) (c32 : w.cell? ⟨G, 32, none⟩ = some (.int .i64 m)) (hc : ∀ i, i < m → w.cell? ⟨G, i, none⟩ = some (.slice (A i) (N i) (C i))) (hK : ∀ i, i < m → KeyAt H w (A i) (N i) (K i))
    (hk : KeyAt H w ka kn t) (hit : ∃ j, j < m ∧ K j = t) :
    Calls Try.prog 24 #[.pointer (some ⟨G, 0, none⟩), .slice ka kn kc] w fun e w' => e = .returned (.bool true) ∧ ∃ q, w' = w.drewN q := by
  have Hc : Hid (∀ i, i < m → w.cell? ⟨G, i, none⟩ = some (.slice (A i) (N i) (C i))) := hc
  have HK : Hid (∀ i, i < m → KeyAt H w (A i) (N i) (K i)) := hK
  have Hhit : Hid (∃ j, j < m ∧ K j = t) := hit
  clear hc hK hit
  have m0 : (0 : Int) ≤ (m : Int) := by omega
  have m32 : (m : Int) ≤ 32 := by omega
  go_enter Try.func24, Try.ntmps24
  go_wp2
  go_quiet (fail)
  go_wp2
  go_loopw [16] (fun i wr => ∃ k : Nat, k ≤ m ∧ i = .int .i64 k ∧ Hid (∀ j, j < k → K j ≠ t) ∧ ∃ q, wr = w.drewN q) (fun i _ => m - (intOf i).toNat)
  case atStart => exact ⟨0, Nat.zero_le _, rfl, (fun j hj => by omega : ∀ j, j < 0 → K j ≠ t), nq, rfl⟩
  case round =>
    obtain ⟨k, hkm, rfl, hg, hw⟩ := hrel
    by_cases hlt : k < m
    · have g0 : wr.cell? ⟨G, k, none⟩ = some (.slice (A k) (N k) (C k)) := (cell_drawn hw _).trans (Hc.out k hlt)
      have l1 : (k : Int) < (m : Int) := by omega
      have kk := key_drawn hw (HK.out k hlt)
      have kt := key_drawn hw hk
      go_wp2_with fail
      refine (equal_any _ _ kk kt).mono ?_
      rintro e w' ⟨rfl, rfl⟩
      by_cases e : K k = t
      · have hd : decide (K k = t) = true := by simp [e]
        rw [hd]
        clear hd e
        go_wp2_with fail
        go_ret
        exact ⟨rfl, hw⟩
      · have hd : decide (K k = t) = false := by simp [e]
        rw [hd]
        have He : Hid (K k ≠ t) := e
        clear hd e
        go_wp2_with fail
        go_roundw
        case rel => exact ⟨k + 1, by omega, by go_num, (fun j hj => by
            by_cases e : j = k
            · rw [e]; exact He.out
            · exact hg.out j (by omega) : ∀ j, j < k + 1 → K j ≠ t), hw⟩
        case measure => simp [intOf]; omega
    · exfalso
      obtain ⟨j, hj, e⟩ := Hhit.out
      exact hg.out j (by omega) e

set_option maxHeartbeats 1000000 in
/-- The key is not among the few; the map says yes. -/
theorem again_many (H G m : Nat) (A : Nat → Option Addr) (N C : Nat → Nat) (K : Nat → ByteArray) (ka : Option Addr) (kn kc : Nat) (t : ByteArray) (mv : Value) (w : World)
    (hm : m ≤ 32) (c32 : w.cell? ⟨G, 32, none⟩ = some (.int .i64 m)) (c33 : w.cell? ⟨G, 33, none⟩ = some mv) (hc : ∀ i, i < m → w.cell? ⟨G, i, none⟩ = some (.slice (A i) (N i) (C i))) (hK : ∀ i, i < m → KeyAt H w (A i) (N i) (K i))
    (hk : KeyAt H w ka kn t) (miss : ∀ j, j < m → K j ≠ t) (hlook : ∀ q, (Instr.lookup 37 mv (.string t) false).run Try.prog (w.drewN q) = .ok (.bool true) (w.drewN q)) :
    Calls Try.prog 24 #[.pointer (some ⟨G, 0, none⟩), .slice ka kn kc] w fun e w' => e = .returned (.bool true) ∧ ∃ q, w' = w.drewN q := by
  have Hc : Hid (∀ i, i < m → w.cell? ⟨G, i, none⟩ = some (.slice (A i) (N i) (C i))) := hc
  have HK : Hid (∀ i, i < m → KeyAt H w (A i) (N i) (K i)) := hK
  have Hmiss : Hid (∀ j, j < m → K j ≠ t) := miss
  have Hlook : Hid (∀ q, (Instr.lookup 37 mv (.string t) false).run Try.prog (w.drewN q) = .ok (.bool true) (w.drewN q)) := hlook
  clear hc hK miss hlook
  have m0 : (0 : Int) ≤ (m : Int) := by omega
  have m32 : (m : Int) ≤ 32 := by omega
  go_enter Try.func24, Try.ntmps24
  go_wp2
  go_quiet (fail)
  go_wp2
  go_loopw [16] (fun i wr => ∃ k : Nat, k ≤ m ∧ i = .int .i64 k ∧ ∃ q, wr = w.drewN q) (fun i _ => m - (intOf i).toNat)
  case atStart => exact ⟨0, Nat.zero_le _, rfl, nq, rfl⟩
  case round =>
    obtain ⟨k, hkm, rfl, hw⟩ := hrel
    by_cases hlt : k < m
    · have g0 : wr.cell? ⟨G, k, none⟩ = some (.slice (A k) (N k) (C k)) := (cell_drawn hw _).trans (Hc.out k hlt)
      have l1 : (k : Int) < (m : Int) := by omega
      have kk := key_drawn hw (HK.out k hlt)
      have kt := key_drawn hw hk
      have e := Hmiss.out k hlt
      have hd : decide (K k = t) = false := by simp [e]
      clear e
      go_wp2_with fail
      refine (equal_any _ _ kk kt).mono ?_
      rintro e w' ⟨rfl, rfl⟩
      rw [hd]
      go_wp2_with fail
      go_roundw
      case rel => exact ⟨k + 1, by omega, by go_num, hw⟩
      case measure => simp [intOf]; omega
    · have kt := (key_drawn hw hk).conv kc
      have d33 : wr.cell? ⟨G, 33, none⟩ = some mv := (cell_drawn hw _).trans c33
      have hl : ∀ q, (Instr.lookup 37 mv (.string t) false).run Try.prog (wr.drewN q) = .ok (.bool true) (wr.drewN q) := by
        obtain ⟨p, rfl⟩ := hw
        intro q
        rw [World.drewN_drewN]
        exact Hlook.out _
      go_wp2_with fail
      go_quiet (fail)
      go_wp2_with fail
      go_ret
      exact ⟨rfl, up_drewN hw _⟩
end Go.Proofs.Qxb6605411a
