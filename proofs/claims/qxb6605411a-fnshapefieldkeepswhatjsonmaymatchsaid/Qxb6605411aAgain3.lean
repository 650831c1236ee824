/-
  (*keysGiven).again at a key that is new, the few being full.
-/
import Derived.Test.Qxb6605411aAgain2
namespace Go.Proofs.Qxb6605411a
open Go.RowKit

theorem zero4 (w : World) : (zeroValue 4).run Try.prog w = .ok (.bool false) w := by kernel_rfl

set_option maxHeartbeats 1000000 in
/-- There is a map. -/
theorem again_put (H G : Nat) (F : Nat → Value) (A : Nat → Option Addr) (N C : Nat → Nat) (K : Nat → ByteArray) (ka : Option Addr) (kn kc : Nat) (t : ByteArray) (mb mm : Nat) (f : ByteArray → Option Value) (w : World)
    (hrow : w.rowIs G 50 34 F) (f32 : F 32 = .int .i64 32) (f33 : F 33 = .map (some mb)) (hc : ∀ i, i < 32 → F i = .slice (A i) (N i) (C i)) (hK : ∀ i, i < 32 → KeyAt H w (A i) (N i) (K i))
    (hk : KeyAt H w ka kn t) (miss : ∀ j, j < 32 → K j ≠ t) (hHb : H ≤ mb) (hmap : strMap Try.prog 9 w mb mm f) (hmm : mm ≤ 1048576) (hf : f t = none) :
    Calls Try.prog 24 #[.pointer (some ⟨G, 0, none⟩), .slice ka kn kc] w fun e w' => e = .returned (.bool false) ∧ w'.rowIs G 50 34 F ∧ strMap Try.prog 9 w' mb (mm + 1) (fun x => if x = t then some (.bool true) else f x) ∧ Below H w w' := by
  have hts : t.size ≤ maxLen := by have := hk.2.1; unfold maxLen; omega
  have c32 : w.cell? ⟨G, 32, none⟩ = some (.int .i64 32) := by rw [hrow.cell (by omega), f32]
  have c33 : w.cell? ⟨G, 33, none⟩ = some (.map (some mb)) := by rw [hrow.cell (by omega), f33]
  have Hc : Hid (∀ i, i < 32 → w.cell? ⟨G, i, none⟩ = some (.slice (A i) (N i) (C i))) := fun i hi => by rw [hrow.cell (by omega), hc i hi]
  have HK : Hid (∀ i, i < 32 → KeyAt H w (A i) (N i) (K i)) := hK
  have Hmiss : Hid (∀ j, j < 32 → K j ≠ t) := miss
  have Hf : Hid (f t = none) := hf
  have Hf33 : Hid (F 33 = .map (some mb)) := f33
  clear hc hK miss hf f32 f33
  have hem := fun w r => run_eql_map_nil (P := Try.prog) w 37 9 4 r Try.underlying37
  go_enter Try.func24, Try.ntmps24
  go_wp2
  go_quiet (fail)
  go_wp2
  go_loopw [16] (fun i wr => ∃ k : Nat, k ≤ 32 ∧ i = .int .i64 k ∧ ∃ q, wr = w.drewN q) (fun i _ => 32 - (intOf i).toNat)
  case atStart => exact ⟨0, Nat.zero_le _, rfl, nq, rfl⟩
  case round =>
    obtain ⟨k, hkm, rfl, hw⟩ := hrel
    by_cases hlt : k < 32
    · have g0 : wr.cell? ⟨G, k, none⟩ = some (.slice (A k) (N k) (C k)) := (cell_drawn hw _).trans (Hc.out k hlt)
      have l1 : (k : Int) < 32 := by omega
      have kk := key_drawn hw (HK.out k hlt)
      have kt := key_drawn hw hk
      have e := Hmiss.out k hlt
      have hd : decide (K k = t) = false := by simp [e]
      clear e
      go_wp2_with fail
      refine (equal_any _ _ kk kt).mono ?_
      rintro e w' ⟨rfl, rfl⟩
      rw [hd]
      go_wp2_with fail
      go_roundw
      case rel => exact ⟨k + 1, by omega, by go_num, hw⟩
      case measure => simp [intOf]; omega
    · have kt := (key_drawn hw hk).conv kc
      have d32 : wr.cell? ⟨G, 32, none⟩ = some (.int .i64 32) := (cell_drawn hw _).trans c32
      have d33 : wr.cell? ⟨G, 33, none⟩ = some (.map (some mb)) := (cell_drawn hw _).trans c33
      have hmr : strMap Try.prog 9 wr mb mm f := by obtain ⟨p, rfl⟩ := hw; exact hmap.drewN p
      have hrow' : wr.rowIs G 50 34 F := by obtain ⟨p, rfl⟩ := hw; exact hrow
      have hb' : Below H w wr := by obtain ⟨p, rfl⟩ := hw; exact below_drewN (Below.refl _ _) _
      have hl : ∀ q, (Instr.lookup 37 (.map (some mb)) (.string t) false).run Try.prog (wr.drewN q) = .ok (.bool false) (wr.drewN q) := by
        intro q
        have := (hmr.drewN q).look Try.underlying9 Try.underlying37 (zero4 _) hts
        rw [Hf.out] at this
        exact this
      go_wp2_with fail
      go_quiet (fail)
      go_wp2_with fail
      obtain ⟨w2, hrun, hmap2, hturn⟩ := (hmr.drewN (nq + 1)).store Try.underlying9 Try.underlying37 (by unfold maxLen; omega) hts (.bool true)
      go_region
      go_wp2_with fail
      go_ret
      rw [Hf.out] at hmap2
      have hne : G ≠ mb := fun e => hmr.ne_cells hrow'.choose_spec.1 e.symm
      have hg := hturn.grown
      exact ⟨rfl, hrow'.of_block (hg.block G hrow'.lt (fun e => hne (by cases e; rfl))), hmap2, ((below_drewN hb' _).grown hg (by have := hb'.size; have := hmr.lt; show H ≤ wr.heap.size; omega) (fun k hk => by cases hk; exact hHb))⟩
end Go.Proofs.Qxb6605411a
