/-
  FnKeysGivenAgainReportsEarlierEqual: its walk.
-/
import Derived.Test.Qxb6605411aKeysLaw
namespace Go.Proofs.Qxb6605411a
open Go.RowKit

theorem copied_key {w w' : World} {H B N : Nat} {V : Nat → Value} {T : Nat → ByteArray} (h : Copied w B N N V T) (hH : w.heap.size ≤ H) (hb : Below w.heap.size w w') {j : Nat} (hj : j < N) :
    w'.cell? ⟨B, j, none⟩ = some (.slice (sa (V j)) (sn (V j)) (sc (V j))) ∧ KeyAt H w' (sa (V j)) (sn (V j)) (T j) := by
  obtain ⟨hB, hrow, hV⟩ := h
  refine ⟨?_, ((hV j hj).2.1.below hb).mono hH⟩
  have e := (hrow.of_block (hb.block B hB)).cell hj
  rw [e, if_pos hj]
  exact congrArg some (hV j hj).1

theorem Bytes.below {w w' : World} {a : Option Addr} {n : Nat} {Z : Nat → Int} (h : Bytes w a n Z) (hb : Below w.heap.size w w') : Bytes w' a n Z := by
  intro h0
  obtain ⟨b, off, ha, hc⟩ := h h0
  exact ⟨b, off, ha, fun i hi => (hb.cell (p := ⟨b, off + i, none⟩) (World.block_lt_of_cell? _ _ (hc i hi))).trans (hc i hi)⟩

theorem copied_start (w : World) (N : Nat) (T : Nat → ByteArray) : Copied (w.alloc (.cells (madeCells #[.slice none 0 0] N) 22)) w.heap.size N 0 (fun _ => .slice none 0 0) T :=
  ⟨by simp, (World.rowIs_made w _ N 22).congr (fun i _ => by simp), fun j hj => by omega⟩

theorem byteseq_yes {H : Nat} {w : World} {a b : Option Addr} {n m : Nat} {s t : ByteArray} (c d : Nat) (h1 : KeyAt H w a n s) (h2 : KeyAt H w b m t) (e : Hid (s = t)) :
    Calls Try.prog 14 #[.slice a n c, .slice b m d] w fun e w' => e = .returned (.bool true) ∧ ∃ q, w' = w.drewN q := by
  have := byteseq_any c d h1 h2
  have hd : decide (s = t) = true := by simp [e.out]
  rw [hd] at this
  exact this

theorem byteseq_no {H : Nat} {w : World} {a b : Option Addr} {n m : Nat} {s t : ByteArray} (c d : Nat) (h1 : KeyAt H w a n s) (h2 : KeyAt H w b m t) (e : Hid (s ≠ t)) :
    Calls Try.prog 14 #[.slice a n c, .slice b m d] w fun e w' => e = .returned (.bool false) ∧ ∃ q, w' = w.drewN q := by
  have := byteseq_any c d h1 h2
  have hd : decide (s = t) = false := by simp [e.out]
  rw [hd] at this
  exact this

theorem below_of {H : Nat} {w wr : World} (h : ∃ q, wr = w.drewN q) : Below H w wr := by obtain ⟨q, rfl⟩ := h; exact below_drewN (Below.refl _ _) _

set_option maxHeartbeats 4000000 in
theorem keys_walk (w : World) (a0 : Option Addr) (N cap : Nat) (A : Nat → Option Addr) (L C : Nat → Nat) (T : Nat → ByteArray) (h : KIn w a0 N A L C T) (hmax : N ≤ maxLen) :
    Calls Try.prog 5 #[.slice a0 N cap] w fun e w' => e = .returned (.bool true) ∧ Below w.heap.size w w' := by
  go_enter Try.func5, Try.ntmps5
  go_wp2_with fail
  refine (guard12 w a0 N cap A L C T h hmax).mono ?_
  rintro e w' ⟨r, rfl, hw', hp⟩
  obtain rfl := hw'.symm
  unfold maxLen at hmax
  cases r
  · clear hp
    go_wp2_with fail
    go_ret
    exact ⟨rfl, Below.refl _ _⟩
  obtain ⟨hN1, hL⟩ := hp rfl
  clear hp
  by_cases hN : ¬ N ≤ 4096
  · clear hL
    go_wp2_with fail
    go_ret
    exact ⟨rfl, Below.refl _ _⟩
  have hmk := run_make_row' (P := Try.prog) 27 22 (.slice none 0 0) 24 Try.underlying27 Try.info22 rfl .i64 .i64 N (by omega) (by omega)
  have HL : Hid (∀ i, i < N → L i ≤ 1048576) := hL
  clear hL
  have d1 : decide ((4096 : Int) < (N : Int)) = false := by simp; omega
  go_wp2_with fail
  -- the sum of the lengths
  go_loop [3, 4] (fun z i => ∃ k s : Nat, k ≤ N ∧ s ≤ 1048576 ∧ i = .int .i64 k ∧ z = .int .i64 s) (fun _ i => N - (intOf i).toNat)
  case atStart => exact ⟨0, 24 * N, Nat.zero_le _, by omega, rfl, by go_num⟩
  case round =>
    obtain ⟨k, s, hk, hs, rfl, rfl⟩ := hrel
    by_cases hlt : k < N
    · obtain ⟨b, off, rfl, hc⟩ := h.outer (by omega)
      have g0 := hc k hlt
      have l1 : (k : Int) < (N : Int) := by omega
      have hbig := HL.out k hlt
      clear hc hmk
      by_cases hS : s + L k ≤ 1048576
      · go_wp2
        go_round
        case rel => exact ⟨k + 1, s + L k, by omega, hS, by go_num, by go_num⟩
        case measure => simp [intOf]; omega
      · go_wp2
        go_ret
        exact ⟨rfl, Below.refl _ _⟩
    · go_wp2
      clear hmk
      -- the copies
      go_loopw [6] (fun i wr => ∃ (k : Nat) (V : Nat → Value), k ≤ N ∧ i = .int .i64 k ∧ Copied wr w.heap.size N k V T ∧ Below w.heap.size w wr) (fun i _ => N - (intOf i).toNat)
      case atStart => exact ⟨0, _, Nat.zero_le _, rfl, copied_start w N T, (Below.refl _ _).alloc (Nat.le_refl _) _⟩
      case round =>
        obtain ⟨k, V, hk, rfl, hcp, hb⟩ := hrel
        by_cases hlt : k < N
        · obtain ⟨b, off, rfl, hc⟩ := h.outer (by omega)
          have g0 : wr.cell? ⟨b, off + k, none⟩ = some (.slice (A k) (L k) (C k)) := (hb.cell (p := ⟨b, off + k, none⟩) (World.block_lt_of_cell? _ _ (hc k hlt))).trans (hc k hlt)
          have l1 : (k : Int) < (N : Int) := by omega
          clear hc
          go_wp2_with fail
          refine (copy_key (A k) (L k) (C k) (T k) _ (h.len k hlt) (by have := h.len k hlt; have := HL.out k hlt; omega) (h.nil k hlt) ((h.inner k hlt).below hb)).mono ?_
          rintro e w1 ⟨a', c', rfl, hka, hfar, hb1⟩
          have hrow1 := hcp.2.1.of_block (hb1.block _ hcp.1)
          have s1 : w1.cell? ⟨w.heap.size, k, none⟩ = some (.slice none 0 0) := by have := hrow1.cell hlt; simpa using this
          have s2 : w1.frozen? ⟨w.heap.size, k, none⟩ = false := hrow1.frozen k
          have hcp1 := copied_step (c := c') hcp hb1 hka (fun b o s e => Nat.lt_of_lt_of_le hcp.1 (hfar b o s e))
          have hbB : Below w.heap.size w (w1.setCell ⟨w.heap.size, k, none⟩ (.slice a' (L k) c')) := (hb.trans (hb1.mono hb.size)).setCell (p := ⟨w.heap.size, k, none⟩) (Nat.le_refl _) _
          clear hrow1 hka hfar
          go_wp2_with fail
          go_roundw
          case rel => exact ⟨k + 1, _, by omega, by go_num, hcp1, hbB⟩
          case measure => simp [intOf]; omega
        · have hkN : N = k := by omega
          subst hkN
          clear hlt hk
          go_wp2_with fail
          refine (new_any _).mono ?_
          rintro e w2 ⟨rfl, hinv, hb2⟩
          obtain ⟨W1, hW1⟩ : ∃ W1, W1 = wr := ⟨_, rfl⟩
          subst hW1
          go_wp2_with fail
          -- the script
          go_loopw [8] (fun i wr => ∃ k : Nat, k ≤ N ∧ i = .int .i64 k ∧ Inv W1.heap.size wr W1.heap.size (ksAt T k) ∧ Below W1.heap.size W1 wr) (fun i _ => N - (intOf i).toNat)
          case atStart => exact ⟨0, Nat.zero_le _, rfl, hinv, hb2⟩
          case round =>
            clear hinv hb2
            obtain ⟨k, hk, rfl, hinv, hb2⟩ := hrel
            have hlen := length_ksAt T k
            obtain ⟨W2, hW2⟩ : ∃ W2, W2 = wr := ⟨_, rfl⟩
            subst hW2
            by_cases hlt : k < N
            · have l1 : (k : Int) < (N : Int) := by omega
              obtain ⟨ck, kk⟩ := copied_key hcp (Nat.le_refl _) hb2 hlt
              by_cases hit : ∃ j, j < k ∧ T j = T k
              · have Hhit : Hid (∃ j, j < k ∧ T j = T k) := hit
                have hkin : kin (T k) (ksAt T k) = true := kin_iff.2 ((mem_ksAt T (T k) k).2 hit)
                clear hit
                go_wp2_with fail
                go_loopw [9, 10] (fun z j wx => ∃ m : Nat, m ≤ k ∧ j = .int .i64 m ∧ z = .bool false ∧ Hid (∀ i, i < m → T i ≠ T k) ∧ ∃ q, wx = W2.drewN q) (fun _ j _ => k - (intOf j).toNat)
                case atStart => exact ⟨0, Nat.zero_le _, rfl, rfl, (fun j hj => by omega : ∀ i, i < 0 → T i ≠ T k), 0, rfl⟩
                case round =>
                  obtain ⟨m, hm, rfl, rfl, hno, hw⟩ := hrel
                  by_cases hmk : m < k
                  · have l2 : (m : Int) < (k : Int) := by omega
                    have l3 : (m : Int) < (N : Int) := by omega
                    obtain ⟨cm, km⟩ := copied_key hcp (Nat.le_refl _) hb2 (show m < N by omega)
                    have cm' := (cell_drawn hw _).trans cm
                    have ck' := (cell_drawn hw _).trans ck
                    have km' := key_drawn hw km
                    have kk' := key_drawn hw kk
                    clear cm ck km
                    by_cases e : T m = T k
                    · have He : Hid (T m = T k) := e
                      clear e
                      go_wp2_with fail
                      go_quiet ((go_at_call 14; exact Calls.quiet_of (byteseq_yes _ _ (key_drawn ⟨_, rfl⟩ km') (key_drawn ⟨_, rfl⟩ kk') He)))
                      go_wp2_with fail
                      refine (zzagain_any _ _ (ksAt T k) _ _ _ (T k) _ (inv_drawn hinv (up_drewN hw _)) (key_drawn ⟨_, rfl⟩ kk') (by omega)).mono ?_
                      rintro e w3 ⟨rfl, hinv3, hb3⟩
                      have hb4 := (hb2.trans (below_of (up_drewN hw _))).trans hb3
                      rw [hkin]
                      go_wp2_with fail
                      go_roundw
                      case rel => exact ⟨k + 1, by omega, by go_num, hinv3, hb4⟩
                      case measure => simp [intOf]; omega
                    · have He : Hid (T m ≠ T k) := e
                      clear e
                      go_wp2_with fail
                      go_quiet ((go_at_call 14; exact Calls.quiet_of (byteseq_no _ _ (key_drawn ⟨_, rfl⟩ km') (key_drawn ⟨_, rfl⟩ kk') He)))
                      go_wp2_with fail
                      go_roundw
                      case rel => exact ⟨m + 1, by omega, by go_num, rfl, (fun j hj => by
                        by_cases e : j = m
                        · rw [e]; exact He.out
                        · exact hno.out j (by omega) : ∀ i, i < m + 1 → T i ≠ T k), up_drewN hw _⟩
                      case measure => simp [intOf]; omega
                  · exfalso
                    obtain ⟨j, hj, e⟩ := Hhit.out
                    exact hno.out j (by omega) e
              · have hkin : kin (T k) (ksAt T k) = false := kin_no.2 (fun h => hit ((mem_ksAt T (T k) k).1 h))
                have Hhit : Hid (∀ j, j < k → T j ≠ T k) := fun j hj e => hit ⟨j, hj, e⟩
                clear hit
                go_wp2_with fail
                go_loopw [9, 10] (fun z j wx => ∃ m : Nat, m ≤ k ∧ j = .int .i64 m ∧ z = .bool false ∧ ∃ q, wx = W2.drewN q) (fun _ j _ => k - (intOf j).toNat)
                case atStart => exact ⟨0, Nat.zero_le _, rfl, rfl, 0, rfl⟩
                case round =>
                  obtain ⟨m, hm, rfl, rfl, hw⟩ := hrel
                  by_cases hmk : m < k
                  · have l2 : (m : Int) < (k : Int) := by omega
                    have l3 : (m : Int) < (N : Int) := by omega
                    obtain ⟨cm, km⟩ := copied_key hcp (Nat.le_refl _) hb2 (show m < N by omega)
                    have cm' := (cell_drawn hw _).trans cm
                    have ck' := (cell_drawn hw _).trans ck
                    have km' := key_drawn hw km
                    have kk' := key_drawn hw kk
                    clear cm ck km
                    have He : Hid (T m ≠ T k) := Hhit.out m hmk
                    go_wp2_with fail
                    go_quiet ((go_at_call 14; exact Calls.quiet_of (byteseq_no _ _ (key_drawn ⟨_, rfl⟩ km') (key_drawn ⟨_, rfl⟩ kk') He)))
                    go_wp2_with fail
                    go_roundw
                    case rel => exact ⟨m + 1, by omega, by go_num, rfl, up_drewN hw _⟩
                    case measure => simp [intOf]; omega
                  · have ck' := (cell_drawn hw _).trans ck
                    have kk' := key_drawn hw kk
                    clear ck
                    go_wp2_with fail
                    refine (zzagain_any _ _ (ksAt T k) _ _ _ (T k) _ (inv_drawn hinv hw) kk' (by omega)).mono ?_
                    rintro e w3 ⟨rfl, hinv3, hb3⟩
                    have hb4 := (hb2.trans (below_of hw)).trans hb3
                    rw [hkin]
                    go_wp2_with fail
                    go_roundw
                    case rel => exact ⟨k + 1, by omega, by go_num, hinv3, hb4⟩
                    case measure => simp [intOf]; omega
            · have hkN : N = k := by omega
              subst hkN
              clear hlt hk
              go_wp2_with fail
              -- every key is held
              go_loopw [11] (fun i wr => ∃ k : Nat, k ≤ N ∧ i = .int .i64 k ∧ Inv W1.heap.size wr W1.heap.size (ksAt T N) ∧ Below W1.heap.size W1 wr) (fun i _ => N - (intOf i).toNat)
              case atStart => exact ⟨0, Nat.zero_le _, rfl, hinv, hb2⟩
              case round =>
                clear hinv hb2
                obtain ⟨k, hk, rfl, hinv, hb2⟩ := hrel
                by_cases hlt : k < N
                · have l1 : (k : Int) < (N : Int) := by omega
                  obtain ⟨ck, kk⟩ := copied_key hcp (Nat.le_refl _) hb2 hlt
                  have hmem : T k ∈ ksAt T N := (mem_ksAt T (T k) N).2 ⟨k, hlt, rfl⟩
                  have hkin : kin (T k) (ksAt T N) = true := kin_iff.2 hmem
                  have hold := addKey_old hmem
                  have Hold : Hid (addKey (ksAt T N) (T k) = ksAt T N) := hold
                  clear hold hmem
                  go_wp2_with fail
                  refine (zzagain_any _ _ (ksAt T N) _ _ _ (T k) _ hinv kk (by omega)).mono ?_
                  rintro e w3 ⟨rfl, hinv3, hb3⟩
                  have hb4 := hb2.trans hb3
                  rw [hkin]
                  rw [Hold.out] at hinv3
                  go_wp2_with fail
                  go_roundw
                  case rel => exact ⟨k + 1, by omega, by go_num, hinv3, hb4⟩
                  case measure => simp [intOf]; omega
                · go_wp2_with fail
                  go_ret
                  exact ⟨rfl, hb.trans (hb2.mono hb.size)⟩
end Go.Proofs.Qxb6605411a
