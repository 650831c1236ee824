/-
  A KEY IN MEMORY: a slice of bytes that reads as the string t; bytes.Equal, zzBytesEq.
-/
import Derived.Test.Qxb6605411aSpace
import Derived.Test.Qxb6605411aMaps
import Derived.Laws.BytesArg
namespace Go.Proofs.Qxb6605411a
open Go.RowKit

def byt (t : ByteArray) (i : Nat) : Int := ((t.data.toList.getD i 0).toNat : Int)

/-- The slice (a, n) reads as the string t; its bytes lie below block H. -/
def KeyAt (H : Nat) (w : World) (a : Option Addr) (n : Nat) (t : ByteArray) : Prop :=
  n = t.size ∧ t.size ≤ 1048576 ∧ ((a = none ∧ t.size = 0) ∨ ∃ b, a = some ⟨b, 0, none⟩ ∧ b < H ∧ ∀ i, i < t.size → w.cell? ⟨b, i, none⟩ = some (.int .u8 (byt t i)))

theorem KeyAt.below {H : Nat} {w w' : World} {a : Option Addr} {n : Nat} {t : ByteArray} (h : KeyAt H w a n t) (hb : Below H w w') : KeyAt H w' a n t := by
  obtain ⟨h1, h2, h3⟩ := h
  refine ⟨h1, h2, ?_⟩
  rcases h3 with h3 | ⟨b, ha, hlt, hc⟩
  · exact .inl h3
  · exact .inr ⟨b, ha, hlt, fun i hi => (hb.cell (p := ⟨b, i, none⟩) hlt).trans (hc i hi)⟩

theorem KeyAt.mono {H H' : Nat} {w : World} {a : Option Addr} {n : Nat} {t : ByteArray} (h : KeyAt H w a n t) (hle : H ≤ H') : KeyAt H' w a n t := by
  obtain ⟨h1, h2, h3⟩ := h
  refine ⟨h1, h2, ?_⟩
  rcases h3 with h3 | ⟨b, ha, hlt, hc⟩
  · exact .inl h3
  · exact .inr ⟨b, ha, by omega, hc⟩

theorem empty_of_size {t : ByteArray} (h : t.size = 0) : t = ByteArray.empty := by
  obtain ⟨⟨l⟩⟩ := t
  have : l = [] := by simpa [ByteArray.size] using h
  rw [this]; rfl

theorem nums_back (t : ByteArray) : strOfNums (t.data.toList.map fun c => (c.toNat : Int)) = t := by
  obtain ⟨⟨l⟩⟩ := t
  have e : ((fun n : Int => UInt8.ofNat n.toNat) ∘ fun c : UInt8 => (c.toNat : Int)) = id := by funext c; simp
  simp [strOfNums, List.map_map, e]

theorem KeyAt.conv {H : Nat} {w : World} {a : Option Addr} {n : Nat} {t : ByteArray} (h : KeyAt H w a n t) (c nq : Nat) :
    (convert 22 9 (.slice a n c)).run Try.prog (w.drewN nq) = .ok (.string t) (w.drewN nq) := by
  obtain ⟨h1, _, h3⟩ := h
  rcases h3 with ⟨rfl, h0⟩ | ⟨b, rfl, _, hc⟩
  · rw [empty_of_size h0]
    exact run_convert_bytes_nil _ 22 5 Try.underlying22 Try.underlying5 n c 9 Try.underlying9
  · have := run_convert_bytes_arg (P := Try.prog) (w.drewN nq) 22 5 Try.underlying22 Try.underlying5 b 0 n c (t.data.toList.map fun c => (c.toNat : Int)) (by simp [h1]) (fun i hi => by
      have := hc i (by omega)
      rw [Nat.zero_add]
      have e : (t.data.toList.map fun c => (c.toNat : Int)).getD i 0 = byt t i := by
        unfold byt
        have hi' : i < t.data.size := by rw [h1] at hi; exact hi
        simp only [List.getD, List.getElem?_map, Array.getElem?_toList, Array.getElem?_eq_getElem hi']
        rfl
      rw [e]
      exact this) 9 Try.underlying9
    rw [nums_back] at this
    exact this

theorem KeyAt.conv0 {H : Nat} {w : World} {a : Option Addr} {n : Nat} {t : ByteArray} (h : KeyAt H w a n t) (c : Nat) :
    (convert 22 9 (.slice a n c)).run Try.prog w = .ok (.string t) w := h.conv c 0

theorem KeyAt.bytes {H : Nat} {w : World} {a : Option Addr} {n : Nat} {t : ByteArray} (h : KeyAt H w a n t) : Bytes w a n (byt t) := by
  intro h0
  obtain ⟨h1, _, h3⟩ := h
  rcases h3 with ⟨_, hz⟩ | ⟨b, ha, _, hc⟩
  · omega
  · exact ⟨b, 0, ha, fun i hi => by rw [Nat.zero_add]; exact hc i (by omega)⟩

theorem byt_ext {s t : ByteArray} (h : s.size = t.size) (hb : ∀ i, i < s.size → byt s i = byt t i) : s = t := by
  obtain ⟨⟨l⟩⟩ := s
  obtain ⟨⟨l'⟩⟩ := t
  simp only [ByteArray.size, List.size_toArray] at h hb
  have : l = l' := by
    apply List.ext_getElem h
    intro i h1 h2
    have := hb i h1
    simp [byt, List.getD, h1, h2] at this
    exact UInt8.toNat_inj.1 (by omega)
  rw [this]

theorem eqs_true {s t : ByteArray} (h : s = t) : (s.toList == t.toList) = true := by rw [h]; simp
theorem eqs_false {s t : ByteArray} (h : s ≠ t) : (s.toList == t.toList) = false := by
  rw [ByteArray.toList_eq, ByteArray.toList_eq]
  simp only [beq_eq_false_iff_ne]
  intro e
  apply h
  cases s; cases t
  simp at e
  rw [e]

set_option maxHeartbeats 400000 in
theorem equal_any {H : Nat} {w : World} {a b : Option Addr} {n m : Nat} {s t : ByteArray} (c d : Nat) (h1 : KeyAt H w a n s) (h2 : KeyAt H w b m t) :
    Calls Try.prog 27 #[.slice a n c, .slice b m d] w fun e w' => e = .returned (.bool (decide (s = t))) ∧ w' = w := by
  have k1 := h1.conv0 c
  have k2 := h2.conv0 d
  clear h1 h2
  by_cases e : s = t
  · have he := eqs_true e
    have hd : decide (s = t) = true := by simp [e]
    rw [hd]
    clear e hd
    go_enter Try.func27, Try.ntmps27
    go_wp2
    go_ret
    exact ⟨rfl, rfl⟩
  · have he := eqs_false e
    have hd : decide (s = t) = false := by simp [e]
    rw [hd]
    clear e hd
    go_enter Try.func27, Try.ntmps27
    go_wp2
    go_ret
    exact ⟨rfl, rfl⟩

set_option maxHeartbeats 1000000 in
theorem byteseq_any {H : Nat} {w : World} {a b : Option Addr} {n m : Nat} {s t : ByteArray} (c d : Nat) (h1 : KeyAt H w a n s) (h2 : KeyAt H w b m t) :
    Calls Try.prog 14 #[.slice a n c, .slice b m d] w fun e w' => e = .returned (.bool (decide (s = t))) ∧ ∃ q, w' = w.drewN q := by
  have b1 := h1.bytes
  have b2 := h2.bytes
  have hn := h1.2.1
  have hs := h1.1
  have ht := h2.1
  clear h1 h2
  by_cases hnm : n = m
  · have hne : ((n : Int) != (m : Int)) = false := by simp; omega
    subst hs
    have Hm : Hid (s.size = m) := hnm
    have Ht : Hid (m = t.size) := ht
    clear hnm ht
    go_enter Try.func14, Try.ntmps14
    go_wp2
    go_loopw [5] (fun i wr => ∃ k : Nat, k ≤ s.size ∧ i = .int .i64 k ∧ Hid (∀ j, j < k → byt s j = byt t j) ∧ ∃ q, wr = w.drewN q) (fun i _ => s.size - (intOf i).toNat)
    case atStart => exact ⟨0, Nat.zero_le _, rfl, (fun j hj => by omega : ∀ j, j < 0 → byt s j = byt t j), 0, rfl⟩
    case round =>
      obtain ⟨k, hk, rfl, hg, hw⟩ := hrel
      by_cases hlt : k < s.size
      · obtain ⟨x, o, rfl, hc1⟩ := b1 (by omega)
        have hlm : k < m := by have := Hm.out; omega
        obtain ⟨y, p, rfl, hc2⟩ := b2 (by omega)
        have g1 : wr.cell? ⟨x, o + k, none⟩ = some (.int .u8 (byt s k)) := by obtain ⟨q, rfl⟩ := hw; exact hc1 k hlt
        have g2 : wr.cell? ⟨y, p + k, none⟩ = some (.int .u8 (byt t k)) := by obtain ⟨q, rfl⟩ := hw; exact hc2 k hlm
        have l1 : (k : Int) < (s.size : Int) := by omega
        have l2 : (k : Int) < (m : Int) := by omega
        clear hc1 hc2 b1 b2
        by_cases hb : byt s k = byt t k
        · have hbn : (byt s k != byt t k) = false := by simp [hb]
          have Hb : Hid (byt s k = byt t k) := hb
          clear hb
          go_wp2
          go_quiet (fail)
          go_wp2
          go_roundw
          case rel => exact ⟨k + 1, by omega, by go_num, (fun j hj => by
            by_cases e : j = k
            · rw [e]; exact Hb.out
            · exact hg.out j (by omega) : ∀ j, j < k + 1 → byt s j = byt t j), by obtain ⟨q, rfl⟩ := hw; exact ⟨q + nq, by rw [World.drewN_drewN]⟩⟩
          case measure => simp [intOf]; omega
        · have hbn : (byt s k != byt t k) = true := by simp [hb]
          go_wp2
          go_quiet (fail)
          go_wp2
          go_ret
          exact ⟨ret_bool (by
            have : ¬ s = t := fun e => hb (by rw [e])
            simp [this]), by obtain ⟨q, rfl⟩ := hw; exact ⟨q + nq, by rw [World.drewN_drewN]⟩⟩
      · go_wp2
        go_ret
        exact ⟨ret_bool (by
          have e : s = t := byt_ext (by have := Hm.out; have := Ht.out; omega) (fun i hi => hg.out i (by omega))
          simp [e]), hw⟩
  · have hne : ((n : Int) != (m : Int)) = true := by simp; omega
    have hd : decide (s = t) = false := by
      simp only [decide_eq_false_iff_not]
      intro e
      rw [e] at hs
      omega
    rw [hd]
    clear b1 b2 hs ht hd
    go_enter Try.func14, Try.ntmps14
    go_wp2
    go_ret
    exact ⟨rfl, 0, rfl⟩
end Go.Proofs.Qxb6605411a
