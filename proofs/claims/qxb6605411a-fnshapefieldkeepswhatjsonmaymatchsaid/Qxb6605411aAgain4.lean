/-
  (*keysGiven).again at a key that is new, the few being full.
-/
import Derived.Test.Qxb6605411aAgain3
namespace Go.Proofs.Qxb6605411a
open Go.RowKit

set_option maxHeartbeats 1000000 in
/-- There is no map yet. -/
theorem again_make (H G : Nat) (F : Nat → Value) (A : Nat → Option Addr) (N C : Nat → Nat) (K : Nat → ByteArray) (ka : Option Addr) (kn kc : Nat) (t : ByteArray) (w : World)
    (hrow : w.rowIs G 50 34 F) (f32 : F 32 = .int .i64 32) (f33 : F 33 = .map none) (hc : ∀ i, i < 32 → F i = .slice (A i) (N i) (C i)) (hK : ∀ i, i < 32 → KeyAt H w (A i) (N i) (K i))
    (hk : KeyAt H w ka kn t) (miss : ∀ j, j < 32 → K j ≠ t) (hHG : H ≤ G) :
    Calls Try.prog 24 #[.pointer (some ⟨G, 0, none⟩), .slice ka kn kc] w fun e w' => e = .returned (.bool false) ∧ w'.rowIs G 50 34 (fun j => if j = 33 then .map (some w.heap.size) else F j) ∧ strMap Try.prog 9 w' w.heap.size 1 (fun x => if x = t then some (.bool true) else none) ∧ Below H w w' := by
  have hts : t.size ≤ maxLen := by have := hk.2.1; unfold maxLen; omega
  have c32 : w.cell? ⟨G, 32, none⟩ = some (.int .i64 32) := by rw [hrow.cell (by omega), f32]
  have c33 : w.cell? ⟨G, 33, none⟩ = some (.map none) := by rw [hrow.cell (by omega), f33]
  have Hc : Hid (∀ i, i < 32 → w.cell? ⟨G, i, none⟩ = some (.slice (A i) (N i) (C i))) := fun i hi => by rw [hrow.cell (by omega), hc i hi]
  have HK : Hid (∀ i, i < 32 → KeyAt H w (A i) (N i) (K i)) := hK
  have Hmiss : Hid (∀ j, j < 32 → K j ≠ t) := miss
  clear hc hK miss f32 f33
  have hmm := @run_makeMap Try.prog
  have hem := fun w r => run_eql_map_nil (P := Try.prog) w 37 9 4 r Try.underlying37
  go_enter Try.func24, Try.ntmps24
  go_wp2
  go_quiet (fail)
  go_wp2
  go_loopw [16] (fun i wr => ∃ k : Nat, k ≤ 32 ∧ i = .int .i64 k ∧ ∃ q, wr = w.drewN q) (fun i _ => 32 - (intOf i).toNat)
  case atStart => exact ⟨0, Nat.zero_le _, rfl, nq, rfl⟩
  case round =>
    obtain ⟨k, hkm, rfl, hw⟩ := hrel
    by_cases hlt : k < 32
    · have g0 : wr.cell? ⟨G, k, none⟩ = some (.slice (A k) (N k) (C k)) := (cell_drawn hw _).trans (Hc.out k hlt)
      have l1 : (k : Int) < 32 := by omega
      have kk := key_drawn hw (HK.out k hlt)
      have kt := key_drawn hw hk
      have e := Hmiss.out k hlt
      have hd : decide (K k = t) = false := by simp [e]
      clear e
      go_wp2_with fail
      refine (equal_any _ _ kk kt).mono ?_
      rintro e w' ⟨rfl, rfl⟩
      rw [hd]
      go_wp2_with fail
      go_roundw
      case rel => exact ⟨k + 1, by omega, by go_num, hw⟩
      case measure => simp [intOf]; omega
    · have kt := (key_drawn hw hk).conv kc
      have d32 : wr.cell? ⟨G, 32, none⟩ = some (.int .i64 32) := (cell_drawn hw _).trans c32
      have d33 : wr.cell? ⟨G, 33, none⟩ = some (.map none) := (cell_drawn hw _).trans c33
      have Hsz : Hid (wr.heap.size = w.heap.size) := by obtain ⟨p, rfl⟩ := hw; exact (rfl : w.heap.size = w.heap.size)
      have hrow' : wr.rowIs G 50 34 F := by obtain ⟨p, rfl⟩ := hw; exact hrow
      have hb' : Below H w wr := by obtain ⟨p, rfl⟩ := hw; exact below_drewN (Below.refl _ _) _
      have fz : wr.frozen? ⟨G, 33, none⟩ = false := hrow'.frozen 33
      have hGlt : G < wr.heap.size := hrow'.lt
      have hl : ∀ q, (Instr.lookup 37 (.map none) (.string t) false).run Try.prog (wr.drewN q) = .ok (.bool false) (wr.drewN q) := by
        intro q
        exact Maps.look_nil (k := 9) (kl := .string t.data.toList) false (Maps.string_keyed Try.underlying9) Try.underlying37 (zero4 _) (WideMaps.keyOf_string_mk Try.underlying9 hts)
      have e33 : ∀ o q, ((wr.drewN q).alloc o).cell? ⟨G, 33, none⟩ = some (.map none) := fun o q => by
        rw [World.cell?_alloc_old _ _ _ (by show G ≠ wr.heap.size; omega)]; exact d33
      have ez : ∀ o q, ((wr.drewN q).alloc o).frozen? ⟨G, 33, none⟩ = false := fun o q => by
        exact (((Below.refl (wr.drewN q).heap.size (wr.drewN q)).alloc (Nat.le_refl _) o).frozen (p := ⟨G, 33, none⟩) hGlt).trans fz
      go_wp2_with fail
      go_quiet (fail)
      go_wp2_with fail
      obtain ⟨W2, hW2⟩ : ∃ W2, W2 = ((wr.drewN nq).alloc (Obj.map #[] 0)).setCell ⟨G, 33, none⟩ (.map (some wr.heap.size)) := ⟨_, rfl⟩
      rw [← hW2]
      have hbB : Below H w W2 := by
        rw [hW2]
        exact ((below_drewN hb' nq).alloc (by show H ≤ wr.heap.size; omega) _).setCell (p := ⟨G, 33, none⟩) hHG _
      have hrow2 : W2.rowIs G 50 34 (fun j => if j = 33 then .map (some wr.heap.size) else F j) := by
        rw [hW2]
        have h0 : (wr.drewN nq).rowIs G 50 34 F := hrow'
        exact (h0.alloc _).set 33 _
      have hmap2 : strMap Try.prog 9 W2.drew wr.heap.size 0 (fun _ => none) := by
        have h0 : strMap Try.prog 9 ((wr.drewN nq).alloc (Obj.map #[] 0)) wr.heap.size 0 (fun _ => none) := strMap_made Try.prog 9 (wr.drewN nq)
        rw [hW2]
        exact h0.of_block (Below.heap_setCell _ _ _ _ (by show wr.heap.size ≠ G; omega))
      have kt2 : (convert 22 9 (.slice ka kn kc)).run Try.prog W2.drew = .ok (.string t) W2.drew := (hk.below hbB).conv kc 1
      have k33 : W2.cell? ⟨G, 33, none⟩ = some (.map (some wr.heap.size)) := by have := hrow2.cell (i := 33) (by omega); simpa using this
      obtain ⟨w2, hrun, hmap3, hturn⟩ := hmap2.store Try.underlying9 Try.underlying37 (by unfold maxLen; omega) hts (.bool true)
      clear hW2 e33 ez hl kt d32 d33
      go_region
      go_wp2_with fail
      go_ret
      have hg := hturn.grown
      have hlt2 : wr.heap.size < W2.heap.size := hmap2.lt
      have hne : G ≠ wr.heap.size := by omega
      rw [← Hsz.out]
      exact ⟨rfl, hrow2.of_block (hg.block G (by show G < W2.heap.size; omega) (fun e => hne (by cases e; rfl))), hmap3, (hbB.drew.grown hg (by show H ≤ W2.heap.size; omega) (fun k hk => by cases hk; omega))⟩
end Go.Proofs.Qxb6605411a
