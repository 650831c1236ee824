/-
  FnShapeFieldKeepsWhatJSONMayMatch: its walk.
-/
import Derived.Test.Qxb6605411aBuilt
import Derived.Test.Qxb6605411aKeysWalk
import Derived.Deep.DeepCutAuto
import Derived.LaidEqlPtr
namespace Go.Proofs.Qxb6605411a
open Go.RowKit

theorem Try.info9 : (Try.prog.info? 9).map (fun i => (i.zero, i.size, i.bytes)) = some (some (.string ByteArray.empty), 1, 16) := by kernel_rfl
theorem Try.info38 : (Try.prog.info? 38).map (fun i => (i.zero, i.size, i.bytes)) = some (some (.pointer none), 1, 8) := by kernel_rfl

/-- A slice of N strings whose cells lie below block H. -/
def StrsAt (H : Nat) (w : World) (na : Option Addr) (N : Nat) (S : Nat → ByteArray) : Prop :=
  0 < N → ∃ b, na = some ⟨b, 0, none⟩ ∧ b < H ∧ ∀ i, i < N → w.cell? ⟨b, i, none⟩ = some (.string (S i))

/-- Halfway: k strings are copied. -/
def halfS (S : Nat → ByteArray) (k i : Nat) : Value := if i < k then .string (S i) else .string ByteArray.empty

theorem halfS_step {w : World} {B n k : Nat} {S : Nat → ByteArray} (h : w.rowIs B 9 n (halfS S k)) : (w.setCell ⟨B, k, none⟩ (.string (S k))).rowIs B 9 n (halfS S (k + 1)) := by
  refine (h.set k _).congr fun i _ => ?_
  unfold halfS
  by_cases e : i = k
  · subst e; simp
  · simp only [e, if_false]
    by_cases h : i < k
    · rw [if_pos h, if_pos (by omega)]
    · rw [if_neg h, if_neg (by omega)]

theorem kin_mono (t : ByteArray) (S : Nat → ByteArray) {m N : Nat} (h : m ≤ N) (hk : kin (lowS t) (gl S m) = true) : kin (lowS t) (gl S N) = true := by
  rw [kin_iff] at *
  unfold gl at *
  simp only [List.mem_map, List.mem_range] at *
  obtain ⟨j, hj, e⟩ := hk
  exact ⟨j, by omega, e⟩

theorem kin_eq (t s : ByteArray) : decide (lowS s = lowS t) = eqFold t s := by
  unfold eqFold
  by_cases h : lowS s = lowS t
  · simp [h]
  · have : ¬ lowS t = lowS s := fun e => h e.symm
    simp [h, this]

set_option maxHeartbeats 1000000 in
set_option maxRecDepth 4000 in
theorem shape_walk (w : World) (whole : Bool) (a0 : Option Addr) (N cap : Nat) (S : Nat → ByteArray) (ka : Option Addr) (n kc : Nat) (t : ByteArray) (h : SIn w a0 N S) (hnilS : a0 = none → N = 0 ∧ cap = 0) (hN : N ≤ maxLen) (hn : n ≤ maxLen)
    (hkn : n = t.size) (hknil : ka = none → n = 0 ∧ kc = 0) (hkb : Bytes w ka n (byt t)) :
    Calls Try.prog 6 #[.bool whole, .slice a0 N cap, .slice ka n kc] w fun e w' => e = .returned (.bool true) ∧ Keep w w' := by
  have HnilS : Hid (a0 = none → N = 0 ∧ cap = 0) := hnilS
  have Hkn : Hid (n = t.size) := hkn
  have Hknil : Hid (ka = none → n = 0 ∧ kc = 0) := hknil
  have Hkb : Hid (Bytes w ka n (byt t)) := hkb
  clear hnilS hkn hknil hkb
  go_enter Try.func6, Try.ntmps6
  go_wp2_with fail
  refine (guard16 w whole a0 N cap S ka n kc h hN hn).mono ?_
  rintro e w' ⟨r, rfl, hw', hp⟩
  obtain rfl := hw'.symm
  unfold maxLen at hN hn
  cases r
  · clear hp
    go_wp2_with fail
    go_ret
    exact ⟨rfl, Keep.refl _⟩
  obtain ⟨hN1, hn1, hS⟩ := hp rfl
  clear hp
  have HS : Hid (∀ i, i < N → (S i).size ≤ 1048576) := hS
  clear hS
  have d1 : decide ((1048576 : Int) < (n : Int)) = false := by simp; omega
  go_wp2_with fail
  -- the sum of the lengths
  go_loop [7, 8] (fun z i => ∃ k s : Nat, k ≤ N ∧ 16 * k ≤ s ∧ s ≤ 1048576 ∧ i = .int .i64 k ∧ z = .int .i64 s) (fun _ i => N - (intOf i).toNat)
  case atStart => exact ⟨0, n, Nat.zero_le _, by omega, hn1, rfl, rfl⟩
  case round =>
    obtain ⟨k, s, hk, hs0, hs, rfl, rfl⟩ := hrel
    by_cases hlt : k < N
    · obtain ⟨b, off, rfl, hc⟩ := h.outer (by omega)
      have g0 := hc k hlt
      have l1 : (k : Int) < (N : Int) := by omega
      have hbig := HS.out k hlt
      clear hc
      by_cases hS : s + (16 + (S k).size) ≤ 1048576
      · go_wp2
        go_round
        case rel => exact ⟨k + 1, s + (16 + (S k).size), by omega, by omega, hS, by go_num, by go_num⟩
        case measure => simp [intOf]; omega
      · go_wp2
        go_ret
        exact ⟨rfl, Keep.refl _⟩
    · have hN16 : 16 * N ≤ 1048576 := by omega
      go_wp2_with fail
      refine (copy_key ka n kc t _ Hkn.out (by have := Hkn.out; omega) Hknil.out Hkb.out).mono ?_
      rintro e w1 ⟨ka', kc', rfl, hkey, hfar, hb1⟩
      clear hfar Hkb Hknil
      go_upto_if 52 with (fail)
      go_cut [1] (fun s1 wc => ∃ na nc, s1 = .slice na N nc ∧ StrsAt wc.heap.size wc na N S ∧ KeyAt wc.heap.size wc ka' n t ∧ Below w.heap.size w wc)
      case first =>
        cases a0 with
        | none =>
          have h0 := (HnilS.out rfl).1
          have H0 : Hid (N = 0) := h0
          clear h0
          go_wp2_with fail
          go_meet
          exact ⟨none, cap, rfl, fun hN => by have := H0.out; omega, hkey, hb1⟩
        | some x =>
          have hmk := run_make_row' (P := Try.prog) 33 9 (.string ByteArray.empty) 16 Try.underlying33 Try.info9 rfl .i64 .i64 N (by omega) (by omega)
          go_wp2_with fail
          clear hmk
          go_loopw [10] (fun i wr => ∃ k : Nat, k ≤ N ∧ i = .int .i64 k ∧ wr.rowIs w1.heap.size 9 N (halfS S k) ∧ Below w1.heap.size w1 wr) (fun i _ => N - (intOf i).toNat)
          case atStart => exact ⟨0, Nat.zero_le _, rfl, (World.rowIs_made w1 _ N 9).congr (fun i _ => by simp [halfS]), (Below.refl _ _).alloc (Nat.le_refl _) _⟩
          case round =>
            obtain ⟨k, hk, rfl, hrow, hb⟩ := hrel
            by_cases hlt : k < N
            · obtain ⟨b, off, hx, hc⟩ := h.outer (by omega)
              simp only [Option.some.injEq] at hx
              subst hx
              have hblt : b < w.heap.size := World.block_lt_of_cell? _ _ (hc k hlt)
              have hblt1 : b < w1.heap.size := Nat.lt_of_lt_of_le hblt hb1.size
              have g0 : wr.cell? ⟨b, off + k, none⟩ = some (.string (S k)) := (hb.cell (p := ⟨b, off + k, none⟩) hblt1).trans ((hb1.cell (p := ⟨b, off + k, none⟩) hblt).trans (hc k hlt))
              have g1 : wr.cell? ⟨w1.heap.size, k, none⟩ = some (.string ByteArray.empty) := by have := hrow.cell hlt; simpa [halfS] using this
              have g2 : wr.frozen? ⟨w1.heap.size, k, none⟩ = false := hrow.frozen k
              have hlt' : (k : Int) < (N : Int) := by omega
              clear hc
              go_wp2_with fail
              go_roundw
              case rel => exact ⟨k + 1, by omega, by go_num, halfS_step hrow, hb.setCell (p := ⟨w1.heap.size, k, none⟩) (Nat.le_refl _) _⟩
              case measure => simp [intOf]; omega
            · have hz := hrow.lt
              go_wp2_with fail
              go_meet
              exact ⟨_, _, rfl, fun _ => ⟨_, rfl, hz, fun i hi => by have := hrow.cell hi; rw [this]; unfold halfS; rw [if_pos (by omega)]⟩, (hkey.below hb).mono hb.size, hb1.trans (hb.mono hb1.size)⟩
      case rest =>
        obtain ⟨na, nc, rfl, hst, hkey2, hb2⟩ := hcut
        clear hkey hb1
        have hmk := run_make_row' (P := Try.prog) 35 38 (.pointer none) 8 Try.underlying35 Try.info38 rfl .i64 .i64 N (by omega) (by omega)
        have hmm := @run_makeMap Try.prog
        go_wp2_with fail
        clear hmk hmm
        obtain ⟨W1, hW1⟩ : ∃ W1, W1 = wc := ⟨_, rfl⟩
        subst hW1
        go_loopw [14] (fun i wr => ∃ (k : Nat) (Pt : Nat → Nat), k ≤ N ∧ i = .int .i64 k ∧ Blt W1 wr N k k k S Pt) (fun i _ => N - (intOf i).toNat)
        case atStart => exact ⟨0, _, Nat.zero_le _, rfl, blt_start W1 N S⟩
        case round =>
          obtain ⟨k, Pt, hk, rfl, hB⟩ := hrel
          by_cases hlt : k < N
          · obtain ⟨nb, rfl, hnb, hcn⟩ := hst (by omega)
            have hlt' : (k : Int) < (N : Int) := by omega
            have hz := hB.size
            have s1 : ∀ o, (wr.alloc o).cell? ⟨W1.heap.size, k, none⟩ = some (.pointer none) := fun o => by
              have := (hB.row.alloc o).cell hlt
              simpa [shp] using this
            have s2 : ∀ o, (wr.alloc o).frozen? ⟨W1.heap.size, k, none⟩ = false := fun o => (hB.row.alloc o).frozen k
            go_upto_region 27 with (fail)
            generalize hW2 : (wr.alloc _).setCell _ _ = W2
            have hB2 : Blt W1 W2 N (k + 1) k k S (fun i => if i = k then wr.heap.size else Pt i) := by rw [← hW2]; exact hB.shape _
            clear hW2 s1 s2
            have hSk := HS.out k hlt
            have hts : (S k).size ≤ maxLen := by unfold maxLen; omega
            have hnbz : nb < W2.heap.size := Nat.lt_of_lt_of_le hnb hB2.below.size
            have gn : W2.cell? ⟨nb, k, none⟩ = some (.string (S k)) := (hB2.below.cell (p := ⟨nb, k, none⟩) hnb).trans (hcn k hlt)
            have gs : W2.cell? ⟨W1.heap.size, k, none⟩ = some (.pointer (some ⟨wr.heap.size, 0, none⟩)) := by
              have := hB2.row.cell hlt
              simpa [shp] using this
            cases hidx : firstIdx S k (S k) with
            | none =>
              have Hidx : Hid (firstIdx S k (S k) = none) := hidx
              clear hidx
              have hl : (Instr.lookup 36 (.map (some (W1.heap.size + 1))) (.string (S k)) true).run Try.prog W2 = .ok (.tuple #[.pointer none, .bool false]) W2 := by
                obtain ⟨m, _, hf⟩ := hB2.fm
                have := hf.look_ok Try.underlying9 Try.underlying36 (zero38 _) hts
                have e0 : ff S (fun i => if i = k then wr.heap.size else Pt i) k (S k) = none := by unfold ff; rw [Hidx.out]; rfl
                rw [e0] at this
                exact this
              obtain ⟨w3, hrun, hB3⟩ := hB2.drew.put wr.heap.size Hidx.out hSk (by omega)
              go_wp2_with fail
              go_region
              clear hrun hl
              have gn3 : w3.cell? ⟨nb, k, none⟩ = some (.string (S k)) := (hB3.below.cell (p := ⟨nb, k, none⟩) hnb).trans (hcn k hlt)
              go_wp2_with fail
              refine (lowerstr_any (S k) hSk _).mono ?_
              rintro e w4 ⟨rfl, hb4⟩
              obtain ⟨w5, hrun5, hB5⟩ := (hB3.later hb4).fold hSk (by omega)
              go_wp2_with fail
              go_roundw
              case rel => exact ⟨k + 1, _, by omega, by go_num, hB5⟩
              case measure => simp [intOf]; omega
            | some j =>
              have Hidx : Hid (firstIdx S k (S k) = some j) := hidx
              clear hidx
              have hl : (Instr.lookup 36 (.map (some (W1.heap.size + 1))) (.string (S k)) true).run Try.prog W2 = .ok (.tuple #[.pointer (some ⟨Pt j, 0, none⟩), .bool true]) W2 := by
                obtain ⟨m, _, hf⟩ := hB2.fm
                have := hf.look_ok Try.underlying9 Try.underlying36 (zero38 _) hts
                have e0 : ff S (fun i => if i = k then wr.heap.size else Pt i) k (S k) = some (.pointer (some ⟨Pt j, 0, none⟩)) := by
                  have hjk := (firstIdx_some Hidx.out).1
                  unfold ff; rw [Hidx.out]
                  show some (Value.pointer (some ⟨if j = k then wr.heap.size else Pt j, 0, none⟩)) = _
                  rw [if_neg (by omega)]
                rw [e0] at this
                exact this
              have hB3 := hB2.old wr.heap.size Hidx.out
              go_wp2_with fail
              refine (lowerstr_any (S k) hSk _).mono ?_
              rintro e w4 ⟨rfl, hb4⟩
              obtain ⟨w5, hrun5, hB5⟩ := (hB3.later hb4).fold hSk (by omega)
              go_wp2_with fail
              go_roundw
              case rel => exact ⟨k + 1, _, by omega, by go_num, hB5⟩
              case measure => simp [intOf]; omega
          · have hkN : N = k := by omega
            subst hkN
            clear hlt hk
            go_wp2_with fail
            refine (make_any whole (W1.heap.size + 1) (W1.heap.size + 1 + 1) _).mono ?_
            rintro e w2 ⟨rfl, ⟨c1, c2, c3⟩, hb3⟩
            have hB2 := hB.later hb3
            have hkW : KeyAt W1.heap.size w2 ka' n t := hkey2.below hB2.below
            have hWz : W1.heap.size ≤ w2.heap.size := hB2.below.size
            obtain ⟨mf, _, hf⟩ := hB2.fm
            obtain ⟨mg, _, hg⟩ := hB2.gm
            go_wp2_with fail
            refine (zzfield_any W1.heap.size wr.heap.size (W1.heap.size + 1) mf (W1.heap.size + 1 + 1) mg whole (ff S Pt N) S N ka' n kc' t _ c1 c2 c3 hWz hkW hf hg).mono ?_
            rintro e w3 ⟨rfl, hk3⟩
            have hKw : Keep w w3 := (Keep.of_below (hb2.trans (hB2.below.mono hb2.size))).trans hk3
            have hkey3 : KeyAt W1.heap.size w3 ka' n t := hkW.keep hk3
            have hrow3 : w3.rowIs W1.heap.size 38 N (shp Pt N) := hk3.row hB2.row
            have hst3 : 0 < N → ∃ b, na = some ⟨b, 0, none⟩ ∧ ∀ i, i < N → w3.cell? ⟨b, i, none⟩ = some (.string (S i)) := fun h0 => by
              obtain ⟨b, e, hlt, hc⟩ := hst h0
              exact ⟨b, e, fun i hi => hk3.cell ((hB2.below.cell (p := ⟨b, i, none⟩) hlt).trans (hc i hi))⟩
            have Hst3 : Hid (0 < N → ∃ b, na = some ⟨b, 0, none⟩ ∧ ∀ i, i < N → w3.cell? ⟨b, i, none⟩ = some (.string (S i))) := hst3
            clear hst3 hst hkey2 hkW hf hg hk3 hB2 hB hb3 c1 c2 c3 hb2 hWz h
            cases whole with
            | true =>
              have ev : fieldV true (ff S Pt N) t = .pointer none := by simp [fieldV]
              have ek : fieldK true (ff S Pt N) (gl S N) t = true := by simp [fieldK]
              rw [ev, ek]
              clear ev ek
              go_wp2_with fail
              go_loopw [22, 23] (fun z j wx => z = .bool true ∧ j = .int .i64 0 ∧ Keep w wx) (fun _ _ _ => 0)
              case atStart => exact ⟨rfl, rfl, hKw⟩
              case round =>
                obtain ⟨rfl, rfl, hKx⟩ := hrel
                by_cases h0 : 0 < N
                · have d0 : (0 : Int) < (N : Int) := by omega
                  go_wp2_with fail
                  go_ret
                  exact ⟨rfl, hKx⟩
                · have d0 : ¬ (0 : Int) < (N : Int) := by omega
                  go_wp2_with fail
                  go_ret
                  exact ⟨rfl, hKx⟩
            | false =>
              obtain ⟨j41, h41⟩ : ∃ j, Try.prog.info? 41 = some j := Option.isSome_iff_exists.1 (by kernel_rfl)
              cases hidx : firstIdx S N t with
              | some j0 =>
                obtain ⟨hj0, hSj, hmin⟩ := firstIdx_some hidx
                have ev : fieldV false (ff S Pt N) t = .pointer (some ⟨Pt j0, 0, none⟩) := by simp [fieldV, ff, hidx]
                have ek : fieldK false (ff S Pt N) (gl S N) t = true := by simp [fieldK, ff, hidx]
                rw [ev, ek]
                have Hmin : Hid (∀ i, i < j0 → S i ≠ t) := hmin
                have HSj : Hid (S j0 = t) := hSj
                clear ev ek hidx hmin hSj
                have gsj : w3.cell? ⟨W1.heap.size, j0, none⟩ = some (.pointer (some ⟨Pt j0, 0, none⟩)) := by
                  have := hrow3.cell hj0
                  simpa [shp, hj0] using this
                have heq := fun w => run_eql_ptr_same (P := Try.prog) w (tp := 38) (te := 41) (j := j41) ⟨Pt j0, 0, none⟩ Try.underlying38 h41
                go_wp2_with fail
                go_loopw [20, 21] (fun z j wx => ∃ m : Nat, m ≤ j0 ∧ j = .int .i64 m ∧ z = .pointer none ∧ ∃ q, wx = w3.drewN q) (fun _ j _ => N - (intOf j).toNat)
                case atStart => exact ⟨0, Nat.zero_le _, rfl, rfl, 0, rfl⟩
                case round =>
                  obtain ⟨m, hm, rfl, rfl, hw⟩ := hrel
                  obtain ⟨nb, rfl, hcn⟩ := Hst3.out (by omega)
                  have l1 : (m : Int) < (N : Int) := by omega
                  have gn := (cell_drawn hw _).trans (hcn m (by omega))
                  have gs := (cell_drawn hw _).trans gsj
                  have kk := key_drawn hw hkey3
                  clear hcn
                  by_cases hme : m = j0
                  · subst hme
                    have he : eqStr t (S m) = true := by unfold eqStr; rw [HSj.out]; simp
                    go_wp2_with fail
                    refine (eqstr_any (S m) _ kk).mono ?_
                    rintro e w4 ⟨rfl, hw4⟩
                    rw [he]
                    have gs4 := (cell_drawn hw4 _).trans gs
                    have hK4 : Keep w w4 := (hKw.trans (Keep.of_drawn hw)).trans (Keep.of_drawn hw4)
                    clear gs gn
                    go_wp2_with fail
                    go_loopw [22, 23] (fun z j wx => z = .bool true ∧ j = .int .i64 0 ∧ Keep w wx) (fun _ _ _ => 0)
                    case atStart => exact ⟨rfl, rfl, hK4⟩
                    case round =>
                      obtain ⟨rfl, rfl, hKx⟩ := hrel
                      by_cases h0 : 0 < N
                      · have d0 : (0 : Int) < (N : Int) := by omega
                        go_wp2_with fail
                        go_ret
                        exact ⟨rfl, hKx⟩
                      · have d0 : ¬ (0 : Int) < (N : Int) := by omega
                        go_wp2_with fail
                        go_ret
                        exact ⟨rfl, hKx⟩
                  · have he : eqStr t (S m) = false := by
                      unfold eqStr
                      have := Hmin.out m (by omega)
                      simp only [decide_eq_false_iff_not]
                      exact fun e => this e.symm
                    have hmj : m < j0 := by omega
                    go_wp2_with fail
                    refine (eqstr_any (S m) _ kk).mono ?_
                    rintro e w4 ⟨rfl, hw4⟩
                    rw [he]
                    have hw5 : ∃ q, w4 = w3.drewN q := by obtain ⟨q, rfl⟩ := hw4; exact up_drewN hw q
                    clear gs gn
                    go_wp2_with fail
                    go_roundw
                    case rel => exact ⟨m + 1, by omega, by go_num, rfl, hw5⟩
                    case measure => simp [intOf]; omega
              | none =>
                have hno := firstIdx_none hidx
                have Hno : Hid (∀ i, i < N → S i ≠ t) := hno
                have ev : fieldV false (ff S Pt N) t = .pointer none := by simp [fieldV, ff, hidx]
                have ek : fieldK false (ff S Pt N) (gl S N) t = (wide t || kin (lowS t) (gl S N)) := by simp [fieldK, ff, hidx]
                rw [ev, ek]
                clear ev ek hidx hno
                go_wp2_with fail
                go_loopw [20, 21] (fun z j wx => ∃ m : Nat, m ≤ N ∧ j = .int .i64 m ∧ z = .pointer none ∧ ∃ q, wx = w3.drewN q) (fun _ j _ => N - (intOf j).toNat)
                case atStart => exact ⟨0, Nat.zero_le _, rfl, rfl, 0, rfl⟩
                case round =>
                  obtain ⟨m, hm, rfl, rfl, hw⟩ := hrel
                  have kk := key_drawn hw hkey3
                  by_cases hmN : m < N
                  · obtain ⟨nb, rfl, hcn⟩ := Hst3.out (by omega)
                    have l1 : (m : Int) < (N : Int) := by omega
                    have gn := (cell_drawn hw _).trans (hcn m (by omega))
                    clear hcn
                    have he : eqStr t (S m) = false := by
                      unfold eqStr
                      have := Hno.out m (by omega)
                      simp only [decide_eq_false_iff_not]
                      exact fun e => this e.symm
                    go_wp2_with fail
                    refine (eqstr_any (S m) _ kk).mono ?_
                    rintro e w4 ⟨rfl, hw4⟩
                    rw [he]
                    have hw5 : ∃ q, w4 = w3.drewN q := by obtain ⟨q, rfl⟩ := hw4; exact up_drewN hw q
                    clear gn
                    go_wp2_with fail
                    go_roundw
                    case rel => exact ⟨m + 1, by omega, by go_num, rfl, hw5⟩
                    case measure => simp [intOf]; omega
                  · have hK4 : Keep w wr := hKw.trans (Keep.of_drawn hw)
                    go_wp2_with fail
                    refine (wide_any _ kk).mono ?_
                    rintro e w4 ⟨rfl, hw4⟩
                    obtain rfl := hw4.symm
                    cases hwd : wide t with
                    | true =>
                      rw [Bool.true_or]
                      go_wp2_with fail
                      go_loopw [22, 23] (fun z j wx => z = .bool true ∧ j = .int .i64 0 ∧ Keep w wx) (fun _ _ _ => 0)
                      case atStart => exact ⟨rfl, rfl, hK4⟩
                      case round =>
                        obtain ⟨rfl, rfl, hKx⟩ := hrel
                        by_cases h0 : 0 < N
                        · have d0 : (0 : Int) < (N : Int) := by omega
                          go_wp2_with fail
                          go_ret
                          exact ⟨rfl, hKx⟩
                        · have d0 : ¬ (0 : Int) < (N : Int) := by omega
                          go_wp2_with fail
                          go_ret
                          exact ⟨rfl, hKx⟩
                    | false =>
                      rw [Bool.false_or]
                      go_wp2_with fail
                      obtain ⟨w5, hW5⟩ : ∃ w5, w5 = wr := ⟨_, rfl⟩
                      subst hW5
                      go_loopw [22, 23] (fun z j wx => ∃ m : Nat, m ≤ N ∧ j = .int .i64 m ∧ z = .bool (kin (lowS t) (gl S m)) ∧ ∃ q, wx = w3.drewN q) (fun _ j _ => N - (intOf j).toNat)
                      case atStart => exact ⟨0, Nat.zero_le _, rfl, rfl, hw⟩
                      case round =>
                        clear kk hK4 hw
                        obtain ⟨m, hm, rfl, rfl, hw⟩ := hrel
                        have kk := key_drawn hw hkey3
                        have hK4 : Keep w wr := hKw.trans (Keep.of_drawn hw)
                        cases hz : kin (lowS t) (gl S m) with
                        | true =>
                          have hzN := kin_mono t S hm hz
                          rw [hzN]
                          clear hzN hz
                          by_cases hmN : m < N
                          · have l1 : (m : Int) < (N : Int) := by omega
                            go_wp2_with fail
                            go_ret
                            exact ⟨rfl, hK4⟩
                          · have l1 : ¬ (m : Int) < (N : Int) := by omega
                            go_wp2_with fail
                            go_ret
                            exact ⟨rfl, hK4⟩
                        | false =>
                          by_cases hmN : m < N
                          · obtain ⟨nb, rfl, hcn⟩ := Hst3.out (by omega)
                            have l1 : (m : Int) < (N : Int) := by omega
                            have gn := (cell_drawn hw _).trans (hcn m (by omega))
                            have Hz : Hid (kin (lowS t) (gl S (m + 1)) = eqFold t (S m)) := by
                              rw [gl_succ, kin_snoc, hz, Bool.false_or]
                              exact kin_eq t (S m)
                            clear hcn hz
                            go_wp2_with fail
                            refine (eqfold_any (S m) _ kk).mono ?_
                            rintro e w6 ⟨rfl, hw6⟩
                            have hw7 : ∃ q, w6 = w3.drewN q := by obtain ⟨q, rfl⟩ := hw6; exact up_drewN hw q
                            clear gn kk hK4
                            cases heq : eqFold t (S m) with
                            | true =>
                              rw [heq] at Hz
                              clear heq
                              go_wp2_with fail
                              go_roundw
                              case rel => exact ⟨m + 1, by omega, by go_num, by rw [Hz.out], hw7⟩
                              case measure => simp [intOf]; omega
                            | false =>
                              rw [heq] at Hz
                              clear heq
                              go_wp2_with fail
                              go_roundw
                              case rel => exact ⟨m + 1, by omega, by go_num, by rw [Hz.out], hw7⟩
                              case measure => simp [intOf]; omega
                          · have hmN' : m = N := by omega
                            have hzN : kin (lowS t) (gl S N) = false := by rw [← hmN']; exact hz
                            rw [hzN]
                            have l1 : ¬ (m : Int) < (N : Int) := by omega
                            clear hzN hz hmN'
                            go_wp2_with fail
                            go_ret
                            exact ⟨rfl, hK4⟩
end Go.Proofs.Qxb6605411a
