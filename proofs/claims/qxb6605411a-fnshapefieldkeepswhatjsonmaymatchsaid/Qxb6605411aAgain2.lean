/-
  (*keysGiven).again at a key that is new.
-/
import Derived.Test.Qxb6605411aAgain
import Derived.RegionTactic
namespace Go.Proofs.Qxb6605411a
open Go.RowKit

/-- The receiver's row with the key laid at place m, the count raised. -/
def putFew (F : Nat → Value) (m : Nat) (v : Value) (j : Nat) : Value := if j = 32 then .int .i64 ((m : Int) + 1) else if j = m then v else F j

set_option maxHeartbeats 1000000 in
/-- There is room among the few. -/
theorem again_add (H G m : Nat) (F : Nat → Value) (A : Nat → Option Addr) (N C : Nat → Nat) (K : Nat → ByteArray) (ka : Option Addr) (kn kc : Nat) (t : ByteArray) (mv : Value) (w : World)
    (hHG : H ≤ G) (hm : m < 32) (hrow : w.rowIs G 50 34 F) (f32 : F 32 = .int .i64 m) (f33 : F 33 = mv) (hc : ∀ i, i < m → F i = .slice (A i) (N i) (C i)) (hK : ∀ i, i < m → KeyAt H w (A i) (N i) (K i))
    (hk : KeyAt H w ka kn t) (miss : ∀ j, j < m → K j ≠ t) (hlook : ∀ q, (Instr.lookup 37 mv (.string t) false).run Try.prog (w.drewN q) = .ok (.bool false) (w.drewN q)) :
    Calls Try.prog 24 #[.pointer (some ⟨G, 0, none⟩), .slice ka kn kc] w fun e w' => e = .returned (.bool false) ∧ w'.rowIs G 50 34 (putFew F m (.slice ka kn kc)) ∧ Below H w w' := by
  have c32 : w.cell? ⟨G, 32, none⟩ = some (.int .i64 m) := by rw [hrow.cell (by omega), f32]
  have c33 : w.cell? ⟨G, 33, none⟩ = some mv := by rw [hrow.cell (by omega), f33]
  have Hc : Hid (∀ i, i < m → w.cell? ⟨G, i, none⟩ = some (.slice (A i) (N i) (C i))) := fun i hi => by rw [hrow.cell (by omega), hc i hi]
  have HK : Hid (∀ i, i < m → KeyAt H w (A i) (N i) (K i)) := hK
  have Hmiss : Hid (∀ j, j < m → K j ≠ t) := miss
  have Hlook : Hid (∀ q, (Instr.lookup 37 mv (.string t) false).run Try.prog (w.drewN q) = .ok (.bool false) (w.drewN q)) := hlook
  clear hc hK miss hlook f32 f33
  have m0 : (0 : Int) ≤ (m : Int) := by omega
  have m32 : (m : Int) < 32 := by omega
  have m32le : (m : Int) ≤ 32 := by omega
  go_enter Try.func24, Try.ntmps24
  go_wp2
  go_quiet (fail)
  go_wp2
  go_loopw [16] (fun i wr => ∃ k : Nat, k ≤ m ∧ i = .int .i64 k ∧ ∃ q, wr = w.drewN q) (fun i _ => m - (intOf i).toNat)
  case atStart => exact ⟨0, Nat.zero_le _, rfl, nq, rfl⟩
  case round =>
    obtain ⟨k, hkm, rfl, hw⟩ := hrel
    by_cases hlt : k < m
    · have g0 : wr.cell? ⟨G, k, none⟩ = some (.slice (A k) (N k) (C k)) := (cell_drawn hw _).trans (Hc.out k hlt)
      have l1 : (k : Int) < (m : Int) := by omega
      have kk := key_drawn hw (HK.out k hlt)
      have kt := key_drawn hw hk
      have e := Hmiss.out k hlt
      have hd : decide (K k = t) = false := by simp [e]
      clear e
      go_wp2_with fail
      refine (equal_any _ _ kk kt).mono ?_
      rintro e w' ⟨rfl, rfl⟩
      rw [hd]
      go_wp2_with fail
      go_roundw
      case rel => exact ⟨k + 1, by omega, by go_num, hw⟩
      case measure => simp [intOf]; omega
    · have kt := (key_drawn hw hk).conv kc
      have d32 : wr.cell? ⟨G, 32, none⟩ = some (.int .i64 m) := (cell_drawn hw _).trans c32
      have d33 : wr.cell? ⟨G, 33, none⟩ = some mv := (cell_drawn hw _).trans c33
      have dm : wr.cell? ⟨G, m, none⟩ = some (F m) := (cell_drawn hw _).trans (hrow.cell (by omega))
      have fm : wr.frozen? ⟨G, m, none⟩ = false := by obtain ⟨p, rfl⟩ := hw; exact hrow.frozen m
      have f32 : wr.frozen? ⟨G, 32, none⟩ = false := by obtain ⟨p, rfl⟩ := hw; exact hrow.frozen 32
      have hl : ∀ q, (Instr.lookup 37 mv (.string t) false).run Try.prog (wr.drewN q) = .ok (.bool false) (wr.drewN q) := by
        obtain ⟨p, rfl⟩ := hw
        intro q
        rw [World.drewN_drewN]
        exact Hlook.out _
      have hmne : ¬ (32 : Nat) = m := by omega
      have hmne' : ¬ m = 32 := by omega
      go_wp2_with fail
      go_quiet (fail)
      go_wp2_with fail
      go_region
      go_wp2_with fail
      go_ret
      have hrow' : wr.rowIs G 50 34 F := by obtain ⟨p, rfl⟩ := hw; exact hrow
      have hb' : Below H w wr := by obtain ⟨p, rfl⟩ := hw; exact below_drewN (Below.refl _ _) _
      exact ⟨rfl, ((hrow'.set m (.slice ka kn kc)).set 32 (.int .i64 ((m : Int) + 1))).congr (fun j _ => rfl), (((below_drewN hb' _).setCell (p := ⟨G, m, none⟩) hHG _).setCell (p := ⟨G, 32, none⟩) hHG _)⟩
end Go.Proofs.Qxb6605411a
