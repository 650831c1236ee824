/-
  zzFoldByte, zzLowerString, zzBytesEqStr, zzEscapedOrWide, zzEqualFoldASCII.
-/
import Derived.Test.Qxb6605411aInv
namespace Go.Proofs.Qxb6605411a
open Go.RowKit

def foldI (c : Int) : Int := if 65 ≤ c ∧ c ≤ 90 then c + 32 else c
def lowB (c : UInt8) : UInt8 := if 65 ≤ c ∧ c ≤ 90 then c + 32 else c
def lowS (t : ByteArray) : ByteArray := ⟨(t.data.toList.map lowB).toArray⟩

theorem lowB_toNat (c : UInt8) : ((lowB c).toNat : Int) = foldI (c.toNat : Int) := by
  unfold lowB foldI
  have e1 : (65 ≤ c) ↔ (65 : Int) ≤ (c.toNat : Int) := by rw [UInt8.le_iff_toNat_le]; simp; omega
  have e2 : (c ≤ 90) ↔ (c.toNat : Int) ≤ 90 := by rw [UInt8.le_iff_toNat_le]; simp; omega
  by_cases h : (65 : Int) ≤ (c.toNat : Int) ∧ (c.toNat : Int) ≤ 90
  · rw [if_pos h, if_pos ⟨e1.2 h.1, e2.2 h.2⟩, UInt8.toNat_add]
    have : (32 : UInt8).toNat = 32 := rfl
    rw [this]
    omega
  · rw [if_neg h, if_neg (fun h' => h ⟨e1.1 h'.1, e2.1 h'.2⟩)]

theorem lowS_size (t : ByteArray) : (lowS t).size = t.size := by
  obtain ⟨⟨l⟩⟩ := t
  simp [lowS, ByteArray.size]

theorem byt_lowS (t : ByteArray) (i : Nat) (hi : i < t.size) : byt (lowS t) i = foldI (byt t i) := by
  obtain ⟨⟨l⟩⟩ := t
  have hi' : i < l.length := by simpa [ByteArray.size] using hi
  unfold byt
  rw [← lowB_toNat]
  simp [lowS, List.getD, hi']

theorem byt_at (t : ByteArray) (i : Nat) (hi : i < t.size) : byt t i = (t[i].toNat : Int) := by
  unfold byt
  have hi' : i < t.data.size := hi
  simp only [List.getD, Array.getElem?_toList, Array.getElem?_eq_getElem hi']
  rfl

theorem byt_range (t : ByteArray) (i : Nat) : 0 ≤ byt t i ∧ byt t i ≤ 255 := by
  unfold byt
  have := (t.data.toList.getD i 0).toNat_lt
  omega

set_option maxHeartbeats 400000 in
theorem fold_any (c : Int) (h0 : 0 ≤ c) (h1 : c ≤ 255) (w : World) :
    Calls Try.prog 25 #[.int .u8 c] w fun e w' => e = .returned (.int .u8 (foldI c)) ∧ w' = w := by
  by_cases a1 : 65 ≤ c
  · by_cases a2 : c ≤ 90
    · have e : foldI c = c + 32 := by unfold foldI; rw [if_pos ⟨a1, a2⟩]
      rw [e]
      clear e
      go_enter Try.func25, Try.ntmps25
      go_wp2
      go_ret
      exact ⟨ret_int (by omega), rfl⟩
    · have e : foldI c = c := by unfold foldI; rw [if_neg (by omega)]
      rw [e]
      clear e
      go_enter Try.func25, Try.ntmps25
      go_wp2
      go_ret
      exact ⟨rfl, rfl⟩
  · have e : foldI c = c := by unfold foldI; rw [if_neg (by omega)]
    rw [e]
    clear e
    go_enter Try.func25, Try.ntmps25
    go_wp2
    go_ret
    exact ⟨rfl, rfl⟩

theorem fold_byte (c : UInt8) (w : World) : Calls Try.prog 25 #[.int .u8 (c.toNat : Int)] w fun e w' => e = .returned (.int .u8 (foldI (c.toNat : Int))) ∧ w' = w :=
  fold_any _ (by omega) (by have := c.toNat_lt; omega) w

theorem fold_byt (t : ByteArray) (i : Nat) (w : World) : Calls Try.prog 25 #[.int .u8 (byt t i)] w fun e w' => e = .returned (.int .u8 (foldI (byt t i))) ∧ w' = w :=
  fold_any _ (byt_range t i).1 (byt_range t i).2 w

set_option maxHeartbeats 1000000 in
theorem lowerstr_any (s : ByteArray) (hs : s.size ≤ 1048576) (w : World) :
    Calls Try.prog 17 #[.string s] w fun e w' => e = .returned (.string (lowS s)) ∧ Below w.heap.size w w' := by
  have hmk := run_make_row' (P := Try.prog) 22 5 (.int .u8 0) 1 Try.underlying22 Try.info5 rfl .i64 .i64 s.size (by omega) (by omega)
  go_enter Try.func17, Try.ntmps17
  go_wp2
  clear hmk
  go_loopw [4] (fun i wr => ∃ k : Nat, k ≤ s.size ∧ i = .int .i64 k ∧ wr.rowIs w.heap.size 5 s.size (half (byt (lowS s)) k) ∧ Below w.heap.size w wr) (fun i _ => s.size - (intOf i).toNat)
  case atStart => exact ⟨0, Nat.zero_le _, rfl, (World.rowIs_made w _ s.size 5).congr (fun i _ => by simp [half]), (Below.refl _ _).alloc (Nat.le_refl _) _⟩
  case round =>
    obtain ⟨k, hk, rfl, hrow, hb⟩ := hrel
    by_cases hlt : k < s.size
    · have g1 : wr.cell? ⟨w.heap.size, k, none⟩ = some (.int .u8 0) := by have := hrow.cell hlt; simpa [half] using this
      have g2 : wr.frozen? ⟨w.heap.size, k, none⟩ = false := hrow.frozen k
      have hlt' : (k : Int) < (s.size : Int) := by omega
      have He : Hid (foldI (s[k].toNat : Int) = byt (lowS s) k) := by rw [byt_lowS s k hlt, byt_at s k hlt]; exact (rfl : foldI _ = foldI _)
      go_wp2_with fail
      refine (fold_byte _ _).mono ?_
      rintro e w1 ⟨rfl, rfl⟩
      rw [He.out]
      go_wp2_with fail
      go_roundw
      case rel => exact ⟨k + 1, by omega, by go_num, half_step hrow, hb.setCell (p := ⟨w.heap.size, k, none⟩) (Nat.le_refl _) _⟩
      case measure => simp [intOf]; omega
    · have hkn : s.size = k := by omega
      have hz := lowS_size s
      have hkey : KeyAt (w.heap.size + 1) wr (some ⟨w.heap.size, 0, none⟩) s.size (lowS s) := by
        refine ⟨by omega, by omega, .inr ⟨_, rfl, by omega, fun i hi => ?_⟩⟩
        have := hrow.cell (i := i) (by omega)
        rw [this]
        unfold half
        rw [if_pos (by omega)]
      have hcv := hkey.conv0 s.size
      clear hkey hz hkn
      go_wp2_with fail
      go_ret
      exact ⟨rfl, hb⟩

/-- zzBytesEqStr. -/
def eqStr (t s : ByteArray) : Bool := decide (t = s)

set_option maxHeartbeats 1000000 in
theorem eqstr_any {H : Nat} {w : World} {a : Option Addr} {n : Nat} {t : ByteArray} (s : ByteArray) (c : Nat) (h1 : KeyAt H w a n t) :
    Calls Try.prog 20 #[.slice a n c, .string s] w fun e w' => e = .returned (.bool (eqStr t s)) ∧ ∃ q, w' = w.drewN q := by
  have b1 := h1.bytes
  have hn := h1.2.1
  have hs := h1.1
  clear h1
  subst hs
  by_cases hnm : t.size = s.size
  · have hne : ((t.size : Int) != (s.size : Int)) = false := by simp; omega
    have Hm : Hid (t.size = s.size) := hnm
    clear hnm
    go_enter Try.func20, Try.ntmps20
    go_wp2
    go_loopw [5] (fun i wr => ∃ k : Nat, k ≤ t.size ∧ i = .int .i64 k ∧ Hid (∀ j, j < k → byt t j = byt s j) ∧ ∃ q, wr = w.drewN q) (fun i _ => t.size - (intOf i).toNat)
    case atStart => exact ⟨0, Nat.zero_le _, rfl, (fun j hj => by omega : ∀ j, j < 0 → byt t j = byt s j), 0, rfl⟩
    case round =>
      obtain ⟨k, hk, rfl, hg, hw⟩ := hrel
      by_cases hlt : k < t.size
      · obtain ⟨x, o, rfl, hc1⟩ := b1 (by omega)
        have hlm : k < s.size := by have := Hm.out; omega
        have g1 : wr.cell? ⟨x, o + k, none⟩ = some (.int .u8 (byt t k)) := by obtain ⟨q, rfl⟩ := hw; exact hc1 k hlt
        have l1 : (k : Int) < (t.size : Int) := by omega
        have l2 : (k : Int) < (s.size : Int) := by omega
        have Hs : Hid (byt s k = (s[k].toNat : Int)) := byt_at s k hlm
        clear hc1 b1
        by_cases hb : byt t k = byt s k
        · have hbn : (byt t k != (s[k].toNat : Int)) = false := by rw [← Hs.out]; simp [hb]
          have Hb : Hid (byt t k = byt s k) := hb
          clear hb
          go_wp2
          go_quiet (fail)
          go_wp2
          go_roundw
          case rel => exact ⟨k + 1, by omega, by go_num, (fun j hj => by
            by_cases e : j = k
            · rw [e]; exact Hb.out
            · exact hg.out j (by omega) : ∀ j, j < k + 1 → byt t j = byt s j), up_drewN hw _⟩
          case measure => simp [intOf]; omega
        · have hbn : (byt t k != (s[k].toNat : Int)) = true := by rw [← Hs.out]; simp [hb]
          go_wp2
          go_quiet (fail)
          go_wp2
          go_ret
          exact ⟨ret_bool (by
            have : ¬ t = s := fun e => hb (by rw [e])
            simp [eqStr, this]), up_drewN hw _⟩
      · go_wp2
        go_ret
        exact ⟨ret_bool (by
          have e : t = s := byt_ext (by have := Hm.out; omega) (fun i hi => hg.out i (by omega))
          simp [eqStr, e]), hw⟩
  · have hne : ((t.size : Int) != (s.size : Int)) = true := by simp; omega
    have hd : eqStr t s = false := by
      simp only [eqStr, decide_eq_false_iff_not]
      intro e
      rw [e] at hnm
      omega
    rw [hd]
    clear b1 hd
    go_enter Try.func20, Try.ntmps20
    go_wp2
    go_ret
    exact ⟨rfl, 0, rfl⟩
end Go.Proofs.Qxb6605411a
