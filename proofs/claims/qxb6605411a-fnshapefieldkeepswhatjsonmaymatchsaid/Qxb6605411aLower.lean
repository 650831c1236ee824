/-
  zzEscapedOrWide, zzEqualFoldASCII, lower.
-/
import Derived.Test.Qxb6605411aFold
import Derived.Deep.Onto
import Derived.OwnWalk
namespace Go.Proofs.Qxb6605411a
open Go.RowKit

def wideAt (t : ByteArray) (i : Nat) : Bool := byt t i == 92 || decide (128 ≤ byt t i)
def wide (t : ByteArray) : Bool := (List.range t.size).any (wideAt t)

theorem wide_yes {t : ByteArray} {i : Nat} (hi : i < t.size) (h : wideAt t i = true) : wide t = true := by
  unfold wide
  rw [List.any_eq_true]
  exact ⟨i, by simpa using hi, h⟩
theorem wide_no {t : ByteArray} (h : ∀ i, i < t.size → wideAt t i = false) : wide t = false := by
  unfold wide
  rw [List.any_eq_false]
  intro i hi
  simp at hi
  simp [h i hi]

set_option maxHeartbeats 1000000 in
theorem wide_any {H : Nat} {w : World} {a : Option Addr} {n : Nat} {t : ByteArray} (c : Nat) (h1 : KeyAt H w a n t) :
    Calls Try.prog 21 #[.slice a n c] w fun e w' => e = .returned (.bool (wide t)) ∧ w' = w := by
  have b1 := h1.bytes
  have hn := h1.2.1
  have hs := h1.1
  clear h1
  subst hs
  go_enter Try.func21, Try.ntmps21
  go_wp2
  go_loop [3] (fun i => ∃ k : Nat, k ≤ t.size ∧ i = .int .i64 k ∧ Hid (∀ j, j < k → wideAt t j = false)) (fun i => t.size - (intOf i).toNat)
  case atStart => exact ⟨0, Nat.zero_le _, rfl, (fun j hj => by omega : ∀ j, j < 0 → wideAt t j = false)⟩
  case round =>
    obtain ⟨k, hk, rfl, hg⟩ := hrel
    by_cases hlt : k < t.size
    · obtain ⟨x, o, rfl, hc1⟩ := b1 (by omega)
      have g1 := hc1 k hlt
      have l1 : (k : Int) < (t.size : Int) := by omega
      clear hc1 b1
      by_cases e1 : (byt t k == 92) = true
      · go_wp2
        go_ret
        exact ⟨ret_bool (wide_yes hlt (by simp [wideAt, e1])).symm, rfl⟩
      · have e1' : (byt t k == 92) = false := by simpa using e1
        clear e1
        by_cases e2 : 128 ≤ byt t k
        · go_wp2
          go_ret
          exact ⟨ret_bool (wide_yes hlt (by simp [wideAt, e2])).symm, rfl⟩
        · go_wp2
          go_round
          case rel => exact ⟨k + 1, by omega, by go_num, (fun j hj => by
            by_cases e : j = k
            · rw [e]; simp only [wideAt, e1']; simp; omega
            · exact hg.out j (by omega) : ∀ j, j < k + 1 → wideAt t j = false)⟩
          case measure => simp [intOf]; omega
    · go_wp2
      go_ret
      exact ⟨ret_bool (wide_no (fun i hi => hg.out i (by omega))).symm, rfl⟩

/-- zzEqualFoldASCII. -/
def eqFold (t s : ByteArray) : Bool := decide (lowS t = lowS s)

set_option maxHeartbeats 1000000 in
theorem eqfold_any {H : Nat} {w : World} {a : Option Addr} {n : Nat} {t : ByteArray} (s : ByteArray) (c : Nat) (h1 : KeyAt H w a n t) :
    Calls Try.prog 22 #[.slice a n c, .string s] w fun e w' => e = .returned (.bool (eqFold t s)) ∧ ∃ q, w' = w.drewN q := by
  have b1 := h1.bytes
  have hn := h1.2.1
  have hs := h1.1
  clear h1
  subst hs
  have z1 := lowS_size t
  have z2 := lowS_size s
  by_cases hnm : t.size = s.size
  · have hne : ((t.size : Int) != (s.size : Int)) = false := by simp; omega
    have Hm : Hid (t.size = s.size) := hnm
    have Z1 : Hid ((lowS t).size = t.size) := z1
    have Z2 : Hid ((lowS s).size = s.size) := z2
    clear hnm z1 z2
    go_enter Try.func22, Try.ntmps22
    go_wp2
    go_loopw [5] (fun i wr => ∃ k : Nat, k ≤ t.size ∧ i = .int .i64 k ∧ Hid (∀ j, j < k → byt (lowS t) j = byt (lowS s) j) ∧ ∃ q, wr = w.drewN q) (fun i _ => t.size - (intOf i).toNat)
    case atStart => exact ⟨0, Nat.zero_le _, rfl, (fun j hj => by omega : ∀ j, j < 0 → byt (lowS t) j = byt (lowS s) j), 0, rfl⟩
    case round =>
      obtain ⟨k, hk, rfl, hg, hw⟩ := hrel
      by_cases hlt : k < t.size
      · obtain ⟨x, o, rfl, hc1⟩ := b1 (by omega)
        have hlm : k < s.size := by have := Hm.out; omega
        have g1 : wr.cell? ⟨x, o + k, none⟩ = some (.int .u8 (byt t k)) := by obtain ⟨q, rfl⟩ := hw; exact hc1 k hlt
        have l1 : (k : Int) < (t.size : Int) := by omega
        have l2 : (k : Int) < (s.size : Int) := by omega
        have Hs : Hid (byt (lowS s) k = foldI (s[k].toNat : Int)) := by rw [byt_lowS s k hlm, byt_at s k hlm]; exact (rfl : foldI _ = foldI _)
        have Ht : Hid (byt (lowS t) k = foldI (byt t k)) := byt_lowS t k hlt
        have r1 := byt_range t k
        have r2 : (s[k].toNat : Int) ≤ 255 := by have := s[k].toNat_lt; omega
        clear hc1 b1
        by_cases hb : byt (lowS t) k = byt (lowS s) k
        · have hbn : (foldI (byt t k) != foldI (s[k].toNat : Int)) = false := by rw [← Hs.out, ← Ht.out]; simp [hb]
          have Hb : Hid (byt (lowS t) k = byt (lowS s) k) := hb
          clear hb
          go_wp2
          go_quiet ((go_at_call 25; exact Calls.quiet_of_same (fold_any _ (by omega) (by omega) _)))
          go_wp2
          go_roundw
          case rel => exact ⟨k + 1, by omega, by go_num, (fun j hj => by
            by_cases e : j = k
            · rw [e]; exact Hb.out
            · exact hg.out j (by omega) : ∀ j, j < k + 1 → byt (lowS t) j = byt (lowS s) j), up_drewN hw _⟩
          case measure => simp [intOf]; omega
        · have hbn : (foldI (byt t k) != foldI (s[k].toNat : Int)) = true := by rw [← Hs.out, ← Ht.out]; simp [hb]
          have Hb : Hid (¬ byt (lowS t) k = byt (lowS s) k) := hb
          clear hb
          go_wp2
          go_quiet ((go_at_call 25; exact Calls.quiet_of_same (fold_any _ (by omega) (by omega) _)))
          go_wp2
          go_ret
          exact ⟨ret_bool (by
            have : ¬ lowS t = lowS s := fun e => Hb.out (by rw [e])
            simp [eqFold, this]), up_drewN hw _⟩
      · go_wp2
        go_ret
        exact ⟨ret_bool (by
          have e : lowS t = lowS s := byt_ext (by have := Hm.out; have := Z1.out; have := Z2.out; omega) (fun i hi => hg.out i (by have := Z1.out; omega))
          simp [eqFold, e]), hw⟩
  · have hne : ((t.size : Int) != (s.size : Int)) = true := by simp; omega
    have hd : eqFold t s = false := by
      simp only [eqFold, decide_eq_false_iff_not]
      intro e
      rw [e] at z1
      omega
    rw [hd]
    clear b1 hd z1 z2
    go_enter Try.func22, Try.ntmps22
    go_wp2
    go_ret
    exact ⟨rfl, 0, rfl⟩

/-! ### lower -/
/-- All that was there is as it was, but for block b (the tape is not looked at). -/
structure KeepBut (b : Nat) (w w' : World) : Prop where
  os : w'.os = w.os
  output : w'.output = w.output
  size : w.heap.size ≤ w'.heap.size
  block : ∀ i, i < w.heap.size → i ≠ b → w'.heap[i]? = w.heap[i]?

def lowCells (t : ByteArray) (k : Nat) : List Value := (List.range k).map fun i => .int .u8 (byt (lowS t) i)
theorem lowCells_length (t : ByteArray) (k : Nat) : (lowCells t k).length = k := by simp [lowCells]
theorem lowCells_snoc (t : ByteArray) (k : Nat) : lowCells t (k + 1) = lowCells t k ++ [.int .u8 (byt (lowS t) k)] := by simp [lowCells, List.range_succ]
theorem lowCells_get (t : ByteArray) (k i : Nat) (h : i < k) : (lowCells t k)[i]? = some (.int .u8 (byt (lowS t) i)) := by simp [lowCells, h]

/-- What lower leaves: a slice that reads as the key lowered. -/
def LowPost (e : Ending) (w w' : World) (b : Nat) (t : ByteArray) : Prop :=
  ∃ v, e = .returned v ∧ (∀ q, (convert 22 9 v).run Try.prog (w'.drewN q) = .ok (.string (lowS t)) (w'.drewN q)) ∧ KeepBut b w w'

theorem low_end {w wr : World} {b : Nat} {t : ByteArray} {v : Value} (hc : Came w 1 (some ⟨b, 0, none⟩) b 0 0 64 []) (h : Onto w 5 1 (some ⟨b, 0, none⟩) b 0 0 64 [] wr v t.size (lowCells t t.size)) :
    LowPost (.returned v) w wr b t := by
  refine ⟨v, rfl, ?_, ⟨h.kept.1, h.kept.2.1, h.kept.size, fun i hi hne => h.kept.block hi (fun p hp => ?_)⟩⟩
  · obtain ⟨g, o', cap', rfl, _, _, hcell⟩ := h.value hc (by unfold maxLen; omega) (.inl (by omega))
    intro q
    have hz := lowS_size t
    have := run_convert_bytes_arg (P := Try.prog) (wr.drewN q) 22 5 Try.underlying22 Try.underlying5 g o' (0 + t.size) cap' ((lowS t).data.toList.map fun c => (c.toNat : Int)) (by
        have : (lowS t).data.toList.length = (lowS t).size := by simp
        simp; omega) (fun i hi => by
      have e := hcell i (by omega)
      rw [List.nil_append, lowCells_get t t.size i (by omega)] at e
      show wr.cell? ⟨g, o' + i, none⟩ = _
      rw [e]
      have hi' : i < (lowS t).data.size := by have : (lowS t).size = (lowS t).data.size := rfl; omega
      unfold byt
      simp only [List.getD, List.getElem?_map, Array.getElem?_toList, Array.getElem?_eq_getElem hi']
      rfl) 9 Try.underlying9
    rw [nums_back] at this
    exact this
  · obtain ⟨j, _, _, rfl⟩ := hp
    exact fun e => hne e.symm

theorem one_u8 (c : Int) : ∀ u ∈ [Value.int .u8 c], u.oneCell' = true := by intro u hu; simp at hu; subst hu; rfl

set_option maxHeartbeats 1000000 in
theorem lower_any (H b : Nat) (F : Nat → Value) (ka : Option Addr) (kn kc : Nat) (t : ByteArray) (w : World) (hHb : H ≤ b) (hrow : w.rowIs b 53 64 F) (hk : KeyAt H w ka kn t) :
    Calls Try.prog 28 #[.slice (some ⟨b, 0, none⟩) 0 64, .slice ka kn kc] w fun e w' => LowPost e w w' b t := by
  have hc : Came w 1 (some ⟨b, 0, none⟩) b 0 0 64 [] := ⟨by omega, fun _ => rfl, fun _ => hrow.lt, rfl, fun j u hj => by simp at hj, fun j hj => by
    have e : (0 + 0 * 1 + j) = j := by omega
    rw [e, hrow.cell (by omega)]
    exact ⟨rfl, hrow.frozen j⟩⟩
  obtain ⟨i0, hi, hz0, hz1, hz2⟩ := info_parts Try.info5
  have hbb := hk.bytes
  have hn := hk.2.1
  have hs := hk.1
  have hfar : ∀ x o s, ka = some ⟨x, o, s⟩ → 0 < kn → x < H := by
    intro x o s e h0
    rcases hk.2.2 with ⟨e2, _⟩ | ⟨y, e2, hy, _⟩
    · rw [e2] at e; cases e
    · rw [e2] at e; cases e; exact hy
  clear hk
  subst hs
  go_enter Try.func28, Try.ntmps28
  go_wp2
  go_loopw [0, 9] (fun v i wr => ∃ k : Nat, k ≤ t.size ∧ i = .int .i64 k ∧ Onto w 5 1 (some ⟨b, 0, none⟩) b 0 0 64 [] wr v k (lowCells t k)) (fun _ i _ => t.size - (intOf i).toNat)
  case atStart => exact ⟨0, Nat.zero_le _, rfl, Onto.start hc⟩
  case round =>
    obtain ⟨k, hk, rfl, honto⟩ := hrel
    by_cases hlt : k < t.size
    · obtain ⟨x, o, rfl, hc1⟩ := hbb (by omega)
      have hxH := hfar x o none rfl (by omega)
      have hx : wr.cell? ⟨x, o + k, none⟩ = some (.int .u8 (byt t k)) := (honto.old (World.block_lt_of_cell? _ _ (hc1 k hlt)) (fun j _ _ e => by have h1 : x = b := e.1; omega)).trans (hc1 k hlt)
      have l1 : (k : Int) < (t.size : Int) := by omega
      have r1 := byt_range t k
      have hl := byt_lowS t k hlt
      have hsn := lowCells_snoc t k
      have Hl : Hid (byt (lowS t) k = foldI (byt t k)) := hl
      have Hsn : Hid (lowCells t (k + 1) = lowCells t k ++ [.int .u8 (byt (lowS t) k)]) := hsn
      clear hc1 hl hsn hbb hfar
      by_cases c1 : 65 ≤ byt t k
      · by_cases c2 : byt t k ≤ 90
        · have ev : foldI (byt t k) = byt t k + 32 := by unfold foldI; rw [if_pos ⟨c1, c2⟩]
          have Hk : Hid (lowCells t (k + 1) = lowCells t k ++ [.int .u8 (byt t k + 32)]) := by rw [Hsn.out, Hl.out, ev]; exact (rfl : _ = lowCells t k ++ [Value.int .u8 (byt t k + 32)])
          clear ev
          go_wp2_with (at_builtin; refine wpList_append_onto _ rfl (.tmp 21) (.tmp 23) 22 rfl hc i0 (.int .u8 0) 1 Try.underlying22 hi hz0 hz1 hz2 rfl (by decide) rfl (honto.alloc hc _) ⟨wr.heap.size, 0, none⟩ 1 [.int .u8 (byt t k + 32)] rfl rfl (cell_one_new _ _ _) (one_u8 _) (by unfold maxLen; omega) (by omega) ?_; intro v' w' honto')
          rw [← Hk.out] at honto'
          go_wp2
          go_roundw
          case rel => exact ⟨k + 1, by omega, by go_num, honto'⟩
          case measure => simp [intOf]; omega
        · have ev : foldI (byt t k) = byt t k := by unfold foldI; rw [if_neg (by omega)]
          have Hk : Hid (lowCells t (k + 1) = lowCells t k ++ [.int .u8 (byt t k)]) := by rw [Hsn.out, Hl.out, ev]; exact (rfl : _ = lowCells t k ++ [Value.int .u8 (byt t k)])
          clear ev
          go_wp2_with (at_builtin; refine wpList_append_onto _ rfl (.tmp 21) (.tmp 23) 22 rfl hc i0 (.int .u8 0) 1 Try.underlying22 hi hz0 hz1 hz2 rfl (by decide) rfl (honto.alloc hc _) ⟨wr.heap.size, 0, none⟩ 1 [.int .u8 (byt t k)] rfl rfl (cell_one_new _ _ _) (one_u8 _) (by unfold maxLen; omega) (by omega) ?_; intro v' w' honto')
          rw [← Hk.out] at honto'
          go_wp2
          go_roundw
          case rel => exact ⟨k + 1, by omega, by go_num, honto'⟩
          case measure => simp [intOf]; omega
      · have ev : foldI (byt t k) = byt t k := by unfold foldI; rw [if_neg (by omega)]
        have Hk : Hid (lowCells t (k + 1) = lowCells t k ++ [.int .u8 (byt t k)]) := by rw [Hsn.out, Hl.out, ev]; exact (rfl : _ = lowCells t k ++ [Value.int .u8 (byt t k)])
        clear ev
        go_wp2_with (at_builtin; refine wpList_append_onto _ rfl (.tmp 21) (.tmp 23) 22 rfl hc i0 (.int .u8 0) 1 Try.underlying22 hi hz0 hz1 hz2 rfl (by decide) rfl (honto.alloc hc _) ⟨wr.heap.size, 0, none⟩ 1 [.int .u8 (byt t k)] rfl rfl (cell_one_new _ _ _) (one_u8 _) (by unfold maxLen; omega) (by omega) ?_; intro v' w' honto')
        rw [← Hk.out] at honto'
        go_wp2
        go_roundw
        case rel => exact ⟨k + 1, by omega, by go_num, honto'⟩
        case measure => simp [intOf]; omega
    · have hkn : t.size = k := by omega
      subst hkn
      go_wp2
      go_ret
      exact low_end hc honto
end Go.Proofs.Qxb6605411a
