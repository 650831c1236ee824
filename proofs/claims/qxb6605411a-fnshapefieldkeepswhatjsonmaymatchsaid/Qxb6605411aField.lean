/-
  (*Shape).field.
-/
import Derived.Test.Qxb6605411aLower
import Derived.Deep.RegionWith
namespace Go.Proofs.Qxb6605411a
open Go.RowKit

theorem zero38 (w : World) : (zeroValue 38).run Try.prog w = .ok (.pointer none) w := by kernel_rfl

set_option maxHeartbeats 400000 in
theorem field_whole (R : Nat) (ka : Option Addr) (kn kc : Nat) (w : World) (c3 : w.cell? ⟨R, 3, none⟩ = some (.bool true)) :
    Calls Try.prog 26 #[.pointer (some ⟨R, 0, none⟩), .slice ka kn kc] w fun e w' => e = .returned (.tuple #[.pointer none, .bool true]) ∧ w' = w := by
  go_enter Try.func26, Try.ntmps26
  go_wp2
  go_ret2
  exact ⟨rfl, rfl⟩

set_option maxHeartbeats 400000 in
theorem field_hit (H R fb m : Nat) (f : ByteArray → Option Value) (p : Value) (ka : Option Addr) (kn kc : Nat) (t : ByteArray) (w : World) (c1 : w.cell? ⟨R, 1, none⟩ = some (.map (some fb))) (c3 : w.cell? ⟨R, 3, none⟩ = some (.bool false))
    (hk : KeyAt H w ka kn t) (hmap : strMap Try.prog 9 w fb m f) (hf : f t = some p) :
    Calls Try.prog 26 #[.pointer (some ⟨R, 0, none⟩), .slice ka kn kc] w fun e w' => e = .returned (.tuple #[p, .bool true]) ∧ ∃ q, w' = w.drewN q := by
  have hts : t.size ≤ maxLen := by have := hk.2.1; unfold maxLen; omega
  have hcv := hk.conv kc
  have hl : ∀ q, (Instr.lookup 36 (.map (some fb)) (.string t) true).run Try.prog (w.drewN q) = .ok (.tuple #[p, .bool true]) (w.drewN q) := by
    intro q
    have := (hmap.drewN q).look_ok Try.underlying9 Try.underlying36 (zero38 _) hts
    rw [hf] at this
    exact this
  clear hk hmap hf
  go_enter Try.func26, Try.ntmps26
  go_wp2
  go_quiet (fail)
  go_wp2
  go_ret2
  exact ⟨rfl, _, rfl⟩

set_option maxHeartbeats 1000000 in
theorem field_wide (H R fb m : Nat) (f : ByteArray → Option Value) (ka : Option Addr) (kn kc : Nat) (t : ByteArray) (w : World) (c1 : w.cell? ⟨R, 1, none⟩ = some (.map (some fb))) (c3 : w.cell? ⟨R, 3, none⟩ = some (.bool false))
    (hk : KeyAt H w ka kn t) (hmap : strMap Try.prog 9 w fb m f) (hf : f t = none) (hwide : wide t = true) :
    Calls Try.prog 26 #[.pointer (some ⟨R, 0, none⟩), .slice ka kn kc] w fun e w' => e = .returned (.tuple #[.pointer none, .bool true]) ∧ ∃ q, w' = w.drewN q := by
  have hts : t.size ≤ maxLen := by have := hk.2.1; unfold maxLen; omega
  have hcv := hk.conv kc
  have hl : ∀ q, (Instr.lookup 36 (.map (some fb)) (.string t) true).run Try.prog (w.drewN q) = .ok (.tuple #[.pointer none, .bool false]) (w.drewN q) := by
    intro q
    have := (hmap.drewN q).look_ok Try.underlying9 Try.underlying36 (zero38 _) hts
    rw [hf] at this
    exact this
  have hbb := hk.bytes
  have hn := hk.2.1
  have hs := hk.1
  have Hw : Hid (wide t = true) := hwide
  clear hk hmap hf hwide
  subst hs
  go_enter Try.func26, Try.ntmps26
  go_wp2
  go_quiet (fail)
  go_wp2
  clear hl hcv
  go_loopw [29] (fun i wr => ∃ k : Nat, k ≤ t.size ∧ i = .int .i64 k ∧ Hid (∀ j, j < k → wideAt t j = false) ∧ ∃ q, wr = w.drewN q) (fun i _ => t.size - (intOf i).toNat)
  case atStart => exact ⟨0, Nat.zero_le _, rfl, (fun j hj => by omega : ∀ j, j < 0 → wideAt t j = false), _, rfl⟩
  case round =>
    obtain ⟨k, hk, rfl, hg, hw⟩ := hrel
    by_cases hlt : k < t.size
    · obtain ⟨x, o, rfl, hc1⟩ := hbb (by omega)
      have g1 := (cell_drawn hw _).trans (hc1 k hlt)
      have l1 : (k : Int) < (t.size : Int) := by omega
      clear hc1 hbb
      by_cases e1 : (byt t k == 92) = true
      · go_wp2
        go_ret2
        exact ⟨rfl, hw⟩
      · have e1' : (byt t k == 92) = false := by simpa using e1
        clear e1
        by_cases e2 : 128 ≤ byt t k
        · go_wp2
          go_ret2
          exact ⟨rfl, hw⟩
        · go_wp2
          go_roundw
          case rel => exact ⟨k + 1, by omega, by go_num, (fun j hj => by
            by_cases e : j = k
            · rw [e]; simp only [wideAt, e1']; simp; omega
            · exact hg.out j (by omega) : ∀ j, j < k + 1 → wideAt t j = false), hw⟩
          case measure => simp [intOf]; omega
    · exfalso
      have := wide_no (fun i hi => hg.out i (by omega))
      rw [Hw.out] at this
      cases this

/-- All that was there is as it was (the tape is not looked at). -/
structure Keep (w w' : World) : Prop where
  os : w'.os = w.os
  output : w'.output = w.output
  size : w.heap.size ≤ w'.heap.size
  block : ∀ i, i < w.heap.size → w'.heap[i]? = w.heap[i]?

theorem rows_of_list (w : World) (c : Array Value) (t : TypeId) (n : Nat) (z : Value) (h : c.toList = List.replicate n z) : (w.alloc (.cells c t)).rowIs w.heap.size t n (fun _ => z) := by
  have hs : c.size = n := by rw [← Array.length_toList, h, List.length_replicate]
  have := World.rowIs_alloc w c t (fun _ => z) (fun i hi => by
    rw [← Array.getElem?_toList, h, List.getElem?_replicate, if_pos (by omega)])
  rw [hs] at this
  exact this

theorem Keep.drew {w w' : World} (h : Keep w w') : Keep w w'.drew := ⟨h.os, h.output, h.size, h.block⟩
theorem keep_but {w W2 w3 : World} {b : Nat} (h : Keep w W2) (k : KeepBut b W2 w3) (hb : w.heap.size ≤ b) : Keep w w3 :=
  ⟨k.os.trans h.os, k.output.trans h.output, Nat.le_trans h.size k.size, fun i hi => (k.block i (Nat.lt_of_lt_of_le hi h.size) (by omega)).trans (h.block i hi)⟩

/-- What the walk wants of the world behind lower. -/
theorem low_facts {W2 w3 : World} {b R gb m' : Nat} {t : ByteArray} {g : ByteArray → Option Value} {r : Bool} {v : Value} (hkeep : KeepBut b W2 w3)
    (hcv : ∀ q, (convert 22 9 v).run Try.prog (w3.drewN q) = .ok (.string (lowS t)) (w3.drewN q)) (e2 : W2.cell? ⟨R, 2, none⟩ = some (.map (some gb))) (hRb : R ≠ b) (hgb : gb ≠ b) (hm : strMap Try.prog 9 W2 gb m' g) (ht : t.size ≤ 1048576) (hr : (g (lowS t)).getD (.bool false) = .bool r) :
    w3.cell? ⟨R, 2, none⟩ = some (.map (some gb)) ∧ (convert 22 9 v).run Try.prog w3 = .ok (.string (lowS t)) w3 ∧ (Instr.lookup 37 (.map (some gb)) (.string (lowS t)) false).run Try.prog w3 = .ok (.bool r) w3 := by
  refine ⟨(World.cell?_of_block (a := ⟨R, 2, none⟩) (hkeep.block R (World.block_lt_of_cell? _ _ e2) hRb)).trans e2, hcv 0, ?_⟩
  have h3 : strMap Try.prog 9 w3 gb m' g := hm.of_block (hkeep.block gb hm.lt hgb)
  have := h3.look Try.underlying9 Try.underlying37 (zero4 _) (s := lowS t) (by have := lowS_size t; unfold maxLen; omega)
  rw [hr] at this
  exact this

set_option maxHeartbeats 2000000 in
theorem field_low (H R fb m gb m' : Nat) (f g : ByteArray → Option Value) (r : Bool) (ka : Option Addr) (kn kc : Nat) (t : ByteArray) (w : World) (c1 : w.cell? ⟨R, 1, none⟩ = some (.map (some fb))) (c2 : w.cell? ⟨R, 2, none⟩ = some (.map (some gb))) (c3 : w.cell? ⟨R, 3, none⟩ = some (.bool false))
    (hH : H ≤ w.heap.size) (hk : KeyAt H w ka kn t) (hmap : strMap Try.prog 9 w fb m f) (hf : f t = none) (hmap2 : strMap Try.prog 9 w gb m' g) (hg2 : (g (lowS t)).getD (.bool false) = .bool r) (hwide : wide t = false) :
    Calls Try.prog 26 #[.pointer (some ⟨R, 0, none⟩), .slice ka kn kc] w fun e w' => e = .returned (.tuple #[.pointer none, .bool r]) ∧ Keep w w' := by
  have hts : t.size ≤ maxLen := by have := hk.2.1; unfold maxLen; omega
  have hcv := hk.conv kc
  have hl : ∀ q, (Instr.lookup 36 (.map (some fb)) (.string t) true).run Try.prog (w.drewN q) = .ok (.tuple #[.pointer none, .bool false]) (w.drewN q) := by
    intro q
    have := (hmap.drewN q).look_ok Try.underlying9 Try.underlying36 (zero38 _) hts
    rw [hf] at this
    exact this
  have hbb := hk.bytes
  have hn := hk.2.1
  have Hs : Hid (kn = t.size) := hk.1
  have Hw : Hid (wide t = false) := hwide
  have Hg2 : Hid ((g (lowS t)).getD (.bool false) = .bool r) := hg2
  clear hf hwide hg2
  have hkn : kn ≤ 1048576 := by have := Hs.out; omega
  go_enter Try.func26, Try.ntmps26
  go_wp2
  go_quiet (fail)
  go_wp2
  clear hl hcv
  go_loopw [29] (fun i wr => ∃ k : Nat, k ≤ kn ∧ i = .int .i64 k ∧ ∃ q, wr = w.drewN q) (fun i _ => kn - (intOf i).toNat)
  case atStart => exact ⟨0, Nat.zero_le _, rfl, _, rfl⟩
  case round =>
    obtain ⟨k, hkk, rfl, hw⟩ := hrel
    by_cases hlt : k < kn
    · obtain ⟨x, o, rfl, hc1⟩ := hbb (by omega)
      have g1 := (cell_drawn hw _).trans (hc1 k hlt)
      have l1 : (k : Int) < (kn : Int) := by omega
      have hno : wideAt t k = false := by
        have hh := Hw.out
        have hs := Hs.out
        unfold wide at hh
        rw [List.any_eq_false] at hh
        have := hh k (by simp; omega)
        simpa using this
      have e1 : (byt t k == 92) = false := by unfold wideAt at hno; simp only [Bool.or_eq_false_iff] at hno; exact hno.1
      have e2 : ¬ 128 ≤ byt t k := by unfold wideAt at hno; simp only [Bool.or_eq_false_iff, decide_eq_false_iff_not] at hno; exact hno.2
      clear hc1 hbb hno
      go_wp2
      go_roundw
      case rel => exact ⟨k + 1, by omega, by go_num, hw⟩
      case measure => simp [intOf]; omega
    · have hsz : wr.heap.size = w.heap.size := by obtain ⟨q, rfl⟩ := hw; rfl
      have Hsz : Hid (wr.heap.size = w.heap.size) := hsz
      clear hsz
      have d2 := (cell_drawn hw ⟨R, 2, none⟩).trans c2
      go_wp2
      generalize hW2 : wr.alloc _ = W2
      have hrow2 : W2.rowIs wr.heap.size 53 64 (fun _ => .int .u8 0) := by rw [← hW2]; exact rows_of_list wr _ 53 64 _ rfl
      have hbW : Below wr.heap.size wr W2 := by rw [← hW2]; exact (Below.refl _ _).alloc (Nat.le_refl _) _
      clear hW2
      have hHw : H ≤ wr.heap.size := by have := Hsz.out; omega
      have hkW : KeyAt H W2 ka kn t := (key_drawn hw hk).below (hbW.mono hHw)
      have hRlt : R < wr.heap.size := World.block_lt_of_cell? _ _ d2
      have e2 : W2.cell? ⟨R, 2, none⟩ = some (.map (some gb)) := (hbW.cell (p := ⟨R, 2, none⟩) hRlt).trans d2
      have hmW : strMap Try.prog 9 W2 gb m' g := by
        have h0 : strMap Try.prog 9 wr gb m' g := by obtain ⟨q, rfl⟩ := hw; exact hmap2.drewN q
        exact h0.of_block (hbW.block gb h0.lt)
      have hgblt : gb < wr.heap.size := by have := hmap2.lt; have := Hsz.out; omega
      have hKeep : Keep w W2 := by
        obtain ⟨q, rfl⟩ := hw
        exact ⟨hbW.os, hbW.output, hbW.size, hbW.block⟩
      have hle : w.heap.size ≤ wr.heap.size := Nat.le_of_eq Hsz.out.symm
      clear hbb d2
      go_region_with (go_at_call 28; refine (lower_any H wr.heap.size (fun _ => .int .u8 0) ka kn kc t _ hHw (by exact hrow2) (by exact hkW)).mono ?_; rintro e w3 ⟨v, rfl, hcv, hkeep⟩; obtain ⟨e3, hcv3, hl3⟩ := low_facts hkeep hcv e2 (by omega) (by omega) hmW (by omega) Hg2.out)
      all_goals
        go_wp2
        go_ret2
        exact ⟨rfl, keep_but hKeep.drew hkeep hle⟩
end Go.Proofs.Qxb6605411a
