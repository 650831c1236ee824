/-
  firstShortest (13): its walk.
-/
import Derived.Test.Qxb6600574aShortSt
import Derived.Deep.LoopGhost
import Derived.Deep.DeepCutAuto
namespace Go.Proofs.Qxb6600574a
open Go.RowKit

/-- Inside a pass. -/
def R4 (W : World) (bd N n : Nat) (F T nm : Nat → ByteArray) (fi ti : Nat → Nat) (up : ByteArray) (ui p : Nat) (ch i : Value) (wr : World) : Prop :=
  ∃ (c : Bool) (k : Nat) (dist : Nat → Int), ch = .bool c ∧ i = .int .i64 (k : Nat) ∧ k ≤ N ∧ St2 W wr bd N n fi ti dist ∧ BF F T N n nm fi ti up ui dist p k c

/-- On the way up. -/
def R5 (δ : Nat → ByteArray → Bool) (W : World) (bd N n : Nat) (F T nm : Nat → ByteArray) (fi ti : Nat → Nat) (dist : Nat → Int) (lo up : ByteArray) (d t c : Nat) (ov : Value) (wr : World) : Prop :=
  ∃ ol ob, Que wr ob ov ol ∧ bd < ob ∧ St2 W wr bd N n fi ti dist ∧ Dst (adj F T N) up (d - t) (nm c) ∧ ol ++ gr (adj F T N) δ (d - t) (nm c) = lo :: gr (adj F T N) δ d lo ∧ ol.length = t + 1

set_option maxRecDepth 4000 in
set_option maxHeartbeats 4000000 in
theorem short_any (δ : Nat → ByteArray → Bool) (W : World) (a0 : Option Addr) (N c0 : Nat) (F T : Nat → ByteArray) (h : LIn W a0 N F T) (a1 : Option Addr) (M c1 : Nat) (A : Nat → ByteArray) (h1 : SIn W a1 M A) (hN : N ≤ 4096) (hM : M ≤ 4096)
    (lo up : ByteArray) (hlo : lo.size ≤ maxLen) (hup : up.size ≤ maxLen) (hδ : Hid (IsDst (adj F T N) up δ)) :
    Calls Try.prog 13 #[.slice a0 N c0, .slice a1 M c1, .string lo, .string up] W fun e w' => Ans (adj F T N) δ up lo (declB N F T M A lo) W e w' := by
  go_enter Try.func13, Try.ntmps13
  go_wp2_with fail
  refine (declared_any W a0 N c0 F T h a1 M c1 A h1 (by omega) (by omega) lo).mono ?_
  rintro e w' ⟨r, rfl, hw, hr⟩
  obtain rfl := hw.symm
  cases r
  · have Hn : Hid (¬ declB N F T M A lo) := fun hd => by cases hr.2 hd
    clear hr
    go_wp2_with fail
    go_ret
    exact ⟨Below.refl _ _, .inl ⟨rfl, .inl Hn.out⟩⟩
  have Hd : Hid (declB N F T M A lo) := hr.1 rfl
  clear hr h1
  have hmm := @run_makeMap Try.prog
  have hmk := run_make_row' (P := Try.prog) 44 3 (.int .i64 0) 8 Try.underlying44 Try.info3 rfl .i64 .i64 N (by omega) (by omega)
  go_wp2_with fail
  clear hmm hmk
  go_loopw [12] (fun i wr => ∃ k m nm fi ti, k ≤ N ∧ i = .int .i64 (k : Nat) ∧ m ≤ 2 * k ∧ St1 W wr N k k m F T nm fi ti) (fun i _ => N - (intOf i).toNat)
  case atStart => exact ⟨0, 0, _, _, _, Nat.zero_le _, rfl, by omega, st1_start W N F T⟩
  case round =>
    obtain ⟨k, m, nm, fi, ti, hk, rfl, hm, hst⟩ := hrel
    by_cases hlt : k < N
    · obtain ⟨b, off, rfl, hc⟩ := h.outer (by omega)
      have hbl : b < W.heap.size := World.block_lt_of_cell? _ _ (hc k hlt).1
      have g0 : wr.cell? ⟨b, off + k * 2, none⟩ = some (.string (F k)) := (hst.below.cell (p := ⟨b, off + k * 2, none⟩) hbl).trans (hc k hlt).1
      have l1 : (k : Int) < (N : Int) := by omega
      go_wp2_with fail
      refine (intern_any hst.ids (F k) (h.big k hlt).1 (by omega)).mono ?_
      rintro e w1 ⟨id, m1, nm1, rfl, hid, hnm, hids, hle, hle2, hold, hg⟩
      have hst1 := hst.intern hids hle hold hg
      have s1 : w1.cell? ⟨W.heap.size + 1, k, none⟩ = some (.int .i64 0) := by rw [hst1.rf.cell hlt]; simp [rowI]
      have s2 : w1.frozen? ⟨W.heap.size + 1, k, none⟩ = false := hst1.rf.frozen k
      have hst2 := hst1.storeF hid hnm
      have g1 : (w1.setCell ⟨W.heap.size + 1, k, none⟩ (.int .i64 (id : Nat))).cell? ⟨b, off + k * 2 + 1, none⟩ = some (.string (T k)) := (hst2.below.cell (p := ⟨b, off + k * 2 + 1, none⟩) hbl).trans (hc k hlt).2
      have Hold : Hid (∀ j, j < m → nm1 j = nm j) := hold
      clear hc hst g0 hids hold hnm
      go_wp2_with fail
      refine (intern_any hst2.ids (T k) (h.big k hlt).2 (by omega)).mono ?_
      rintro e w2 ⟨id', m2, nm2, rfl, hid', hnm', hids', hle', hle2', hold', hg'⟩
      have hst3 := hst2.intern hids' hle' hold' hg'
      have s3 : w2.cell? ⟨W.heap.size + 1 + 1, k, none⟩ = some (.int .i64 0) := by rw [hst3.rt.cell hlt]; simp [rowI]
      have s4 : w2.frozen? ⟨W.heap.size + 1 + 1, k, none⟩ = false := hst3.rt.frozen k
      have hst4 := hst3.storeT hid' hnm'
      clear hst2 hst1 g1 hids' hold' hnm' hst3
      go_wp2_with fail
      go_roundw
      case rel => exact ⟨k + 1, m2, nm2, _, _, by omega, by go_num, by omega, hst4⟩
      case measure => simp [intOf]; omega
    · obtain rfl : N = k := by omega
      clear hlt hk
      go_wp2_with fail
      refine (intern_any hst.ids lo hlo (by omega)).mono ?_
      rintro e w1 ⟨li, m1, nm1, rfl, hli, hnm1, hids1, hle1, hle1', hold1, hg1⟩
      have hst1 := hst.intern hids1 hle1 hold1 hg1
      have Hold1 : Hid (∀ j, j < m → nm1 j = nm j) := hold1
      have Hnm1 : Hid (nm1 li = lo) := hnm1
      clear hold1 hnm1 hst hids1
      go_wp2_with fail
      refine (intern_any hst1.ids up hup (by omega)).mono ?_
      rintro e w2 ⟨ui, n, nm2, rfl, hui, hnm2, hids2, hle2, hle2', hold2, hg2⟩
      have hst2 := hst1.intern hids2 hle2 hold2 hg2
      have Hlo : Hid (nm2 li = lo) := (hold2 li hli).trans Hnm1.out
      have Hup : Hid (nm2 ui = up) := hnm2
      have hlen := hids2.len
      have hmk := run_make_row' (P := Try.prog) 44 3 (.int .i64 0) 8 Try.underlying44 Try.info3 rfl .i64 .i64 n (by omega) (by omega)
      have hnum : Num F T N n nm2 fi ti up ui := ⟨hids2.inj, hst2.f, hst2.t, hui, hnm2⟩
      clear hold2 hnm2 hst1 hids2 Hold1 Hnm1
      go_wp2_with fail
      have hst3 := hst2.made
      have hn8 : n ≤ 8194 := by omega
      clear hst2 hlen hmk hle1 hle1' hg1 hg2
      go_loopw [17] (fun i wr => ∃ j : Nat, j ≤ n ∧ i = .int .i64 j ∧ St2 W wr w2.heap.size N n fi ti (fun x => if x < j then -1 else 0)) (fun i _ => n - (intOf i).toNat)
      case atStart => exact ⟨0, Nat.zero_le _, rfl, hst3.congr (fun j _ => by simp)⟩
      case round =>
        clear hst3
        obtain ⟨j, hj, rfl, hst⟩ := hrel
        by_cases hlt : j < n
        · have s1 : wr.cell? ⟨w2.heap.size, j, none⟩ = some (.int .i64 0) := by rw [hst.rd.cell hlt]; simp
          have s2 : wr.frozen? ⟨w2.heap.size, j, none⟩ = false := hst.rd.frozen j
          have l1 : (j : Int) < (n : Int) := by omega
          have hst' := hst.store j (-1)
          clear hst
          go_wp2_with fail
          go_roundw
          case rel => exact ⟨j + 1, by omega, by go_num, hst'.congr (fun i _ => by
            show (if i = j then (-1 : Int) else if i < j then -1 else 0) = if i < j + 1 then -1 else 0
            by_cases e : i = j
            · rw [if_pos e, if_pos (by omega)]
            · rw [if_neg e]
              by_cases e' : i < j
              · rw [if_pos e', if_pos (by omega)]
              · rw [if_neg e', if_neg (by omega)])⟩
          case measure => simp [intOf]; omega
        · obtain rfl : n = j := by omega
          have s1 : wr.cell? ⟨w2.heap.size, ui, none⟩ = some (.int .i64 (-1)) := by rw [hst.rd.cell hui]; simp [hui]
          have s2 : wr.frozen? ⟨w2.heap.size, ui, none⟩ = false := hst.rd.frozen ui
          have l1 : (ui : Int) < (n : Int) := by omega
          have hst' : St2 W (wr.setCell ⟨w2.heap.size, ui, none⟩ (.int .i64 0)) w2.heap.size N n fi ti (fun j => if j = ui then 0 else -1) := (hst.store ui 0).congr (fun i hi => by
            show (if i = ui then (0 : Int) else if i < n then -1 else 0) = if i = ui then 0 else -1
            by_cases e : i = ui
            · rw [if_pos e, if_pos e]
            · rw [if_neg e, if_neg e, if_pos hi])
          clear hst hlt hj
          go_wp2_with fail
          clear s1 s2
          go_loopw [18] (fun ps wr => ∃ (p : Nat) (dist : Nat → Int), p ≤ n ∧ ps = .int .i64 p ∧ St2 W wr w2.heap.size N n fi ti dist ∧ BF F T N n nm2 fi ti up ui dist p 0 false) (fun ps _ => n + 1 - (intOf ps).toNat)
          case atStart => exact ⟨0, _, Nat.zero_le _, rfl, hst', BF.start hnum⟩
          case round =>
            clear hst'
            obtain ⟨p, dist0, hp, rfl, hst, hbf⟩ := hrel
            have d1 : decide ((p : Int) ≤ (n : Int)) = true := by simp; omega
            have l2 : (p : Int) ≤ (n : Int) := by omega
            obtain ⟨W3, hW3⟩ : ∃ W3, W3 = wr := ⟨_, rfl⟩
            subst hW3
            go_wp2_with fail
            go_loopw [19, 20] (fun ch i wr => R4 W w2.heap.size N n F T nm2 fi ti up ui p ch i wr) (fun _ i _ => N - (intOf i).toNat)
            case atStart => exact ⟨false, 0, dist0, rfl, rfl, Nat.zero_le _, hst, hbf⟩
            case round =>
              clear hst hbf
              obtain ⟨c, k, dist, rfl, rfl, hk, hst, hbf⟩ := hrel
              by_cases hlt : k < N
              · obtain ⟨t1, t2⟩ := hnum.t k hlt
                obtain ⟨f1, f2⟩ := hnum.f k hlt
                have g1 : wr.cell? ⟨W.heap.size + 1 + 1, k, none⟩ = some (.int .i64 (ti k : Nat)) := hst.rt.cell hlt
                have g2 : wr.cell? ⟨W.heap.size + 1, k, none⟩ = some (.int .i64 (fi k : Nat)) := hst.rf.cell hlt
                have g3 : wr.cell? ⟨w2.heap.size, ti k, none⟩ = some (.int .i64 (dist (ti k))) := hst.rd.cell t1
                have g4 : wr.cell? ⟨w2.heap.size, fi k, none⟩ = some (.int .i64 (dist (fi k))) := hst.rd.cell f1
                have g5 : wr.frozen? ⟨w2.heap.size, fi k, none⟩ = false := hst.rd.frozen _
                have l3 : (k : Int) < (N : Int) := by omega
                have l4 : (ti k : Int) < (n : Int) := by omega
                have l5 : (fi k : Int) < (n : Int) := by omega
                have b1 : dist (ti k) ≤ 40000000 := by have := hbf.hi _ t1; omega
                have b2 : dist (fi k) ≤ 40000000 := by have := hbf.hi _ f1; omega
                have b3 := hbf.low _ t1
                have b4 := hbf.low _ f1
                clear t2 f2
                by_cases h0 : dist (ti k) < 0
                · have hbf' := hbf.skip hnum hlt h0
                  clear g2 g4 g5
                  go_wp2_with fail
                  go_roundw
                  case rel => exact ⟨c, k + 1, dist, rfl, by go_num, by omega, hst, hbf'⟩
                  case measure => simp [intOf]; omega
                · by_cases h1 : dist (fi k) < 0
                  · have hbf' := hbf.set hnum hlt (by omega) (.inl h1)
                    have hst' := hst.store (fi k) (dist (ti k) + 1)
                    go_wp2_with fail
                    go_roundw
                    case rel => exact ⟨true, k + 1, _, rfl, by go_num, by omega, hst', hbf'⟩
                    case measure => simp [intOf]; omega
                  · by_cases h2 : dist (ti k) + 1 < dist (fi k)
                    · have hbf' := hbf.set hnum hlt (by omega) (.inr h2)
                      have hst' := hst.store (fi k) (dist (ti k) + 1)
                      go_wp2_with fail
                      go_roundw
                      case rel => exact ⟨true, k + 1, _, rfl, by go_num, by omega, hst', hbf'⟩
                      case measure => simp [intOf]; omega
                    · have hbf' := hbf.keep hnum hlt (by omega) (by omega) (by omega)
                      go_wp2_with fail
                      go_roundw
                      case rel => exact ⟨c, k + 1, dist, rfl, by go_num, by omega, hst, hbf'⟩
                      case measure => simp [intOf]; omega
              · obtain rfl : N = k := by omega
                cases c
                · have hex := hbf.settled hnum
                  have hlin : li < n := by omega
                  have g1 : wr.cell? ⟨w2.heap.size, li, none⟩ = some (.int .i64 (dist li)) := hst.rd.cell hlin
                  have l3 : (li : Int) < (n : Int) := by omega
                  clear hbf hlt hk d1 l2
                  by_cases h0 : dist li < 0
                  · have hnone := hex.none hlin h0
                    rw [Hlo.out] at hnone
                    have Hnone : Hid (∀ k, ¬ Wk (adj F T N) up k lo) := hnone
                    clear hnone
                    go_wp2_with fail
                    go_ret
                    exact ⟨hst.below, .inl ⟨rfl, .inr Hnone.out⟩⟩
                  · obtain ⟨d, hd⟩ : ∃ d : Nat, dist li = d := ⟨(dist li).toNat, by omega⟩
                    rw [hd] at g1 h0
                    have hdst := hex.dst hlin hd
                    have hdn : d < n := Dst.lt (n := n) (nm := nm2) adj_T (fun i hi => ⟨ti i, hnum.t i hi⟩) hlin hdst
                    rw [Hlo.out] at hdst
                    have hmk := make_names0 d (by omega)
                    have hq0 := que_made wr (d + 1) (by unfold maxLen; omega)
                    have hcell := lit_cell (wr.alloc (.cells (madeCells #[.string ⟨#[]⟩] (d + 1)) 9)) lo
                    have hsz : (wr.alloc (.cells (madeCells #[.string ⟨#[]⟩] (d + 1)) 9)).heap.size = wr.heap.size + 1 := by simp
                    rw [hsz] at hcell
                    have d2 : decide ((d : Int) < 0) = false := by simp
                    clear hd h0
                    go_wp2_with (at_builtin; refine wpList_append_que rfl (.tmp 147) (.tmp 149) rfl (hq0.alloc _) rfl (wr.heap.size + 1) 1 lo rfl hcell (by simp) ?_; intro v' w' b' hq' hb' hg')
                    have hst' := ((hst.alloc _).alloc _).grown hg' hst.rd.lt
                    have hob : w2.heap.size < b' := by
                      have := hst.rd.lt
                      rcases hb' with rfl | hb'
                      · exact this
                      · simp at hb'; omega
                    have hr0 : R5 δ W w2.heap.size N n F T nm2 fi ti dist lo up d 0 li v' w' := by
                      refine ⟨_, b', hq', hob, hst', ?_, ?_, by simp⟩
                      · rw [Nat.sub_zero, Hlo.out]; exact hdst
                      · rw [Nat.sub_zero, Hlo.out]; rfl
                    clear hst hst' hob hq' hb' hg' hmk hq0 hcell g1 d2 hsz
                    go_loopw [23, 24, 25] (fun ov cv sv wr => ∃ t c : Nat, t ≤ d ∧ sv = .int .i64 t ∧ cv = .int .i64 c ∧ c < n ∧ R5 δ W w2.heap.size N n F T nm2 fi ti dist lo up d t c ov wr) (fun _ _ sv _ => d - (intOf sv).toNat)
                    case atStart => exact ⟨0, li, Nat.zero_le _, rfl, rfl, hlin, hr0⟩
                    case round =>
                      clear hr0
                      obtain ⟨t, c, ht, rfl, rfl, hcn, hr5⟩ := hrel
                      obtain ⟨ol, ob, hq, hob, hst, hdc, heq, hol⟩ := hr5
                      by_cases hlt : t < d
                      · obtain ⟨r, hr⟩ : ∃ r, d - t = r + 1 := ⟨d - t - 1, by omega⟩
                        rw [hr] at hdc heq
                        have Heq : Hid (ol ++ gr (adj F T N) δ (r + 1) (nm2 c) = lo :: gr (adj F T N) δ d lo) := heq
                        have l5 : (t : Int) < (d : Int) := by omega
                        clear heq
                        obtain ⟨W5, hW5⟩ : ∃ W5, W5 = wr := ⟨_, rfl⟩
                        subst hW5
                        go_wp2_with fail
                        go_loopw [27, 28] (fun nv iv wr => ∃ k : Nat, k ≤ N ∧ nv = .int .i64 (-1) ∧ iv = .int .i64 k ∧ wr = W5 ∧ Hid (∀ i', i' < k → ¬ (fi i' = c ∧ dist (ti i') = r))) (fun _ iv _ => N - (intOf iv).toNat)
                        case atStart => exact ⟨0, Nat.zero_le _, rfl, rfl, rfl, (fun i' hi' => by omega : ∀ i', i' < 0 → ¬ (fi i' = c ∧ dist (ti i') = r))⟩
                        case round =>
                          obtain ⟨k, hk, rfl, rfl, rfl, hno⟩ := hrel
                          by_cases hkN : k < N
                          · obtain ⟨t1, t2⟩ := hnum.t k hkN
                            obtain ⟨f1, f2⟩ := hnum.f k hkN
                            have g1 : wr.cell? ⟨W.heap.size + 1 + 1, k, none⟩ = some (.int .i64 (ti k : Nat)) := hst.rt.cell hkN
                            have g2 : wr.cell? ⟨W.heap.size + 1, k, none⟩ = some (.int .i64 (fi k : Nat)) := hst.rf.cell hkN
                            have g3 : wr.cell? ⟨w2.heap.size, ti k, none⟩ = some (.int .i64 (dist (ti k))) := hst.rd.cell t1
                            have l6 : (k : Int) < (N : Int) := by omega
                            have l7 : (ti k : Int) < (n : Int) := by omega
                            have Ht2 : Hid (nm2 (ti k) = T k) := t2
                            have Hf2 : Hid (nm2 (fi k) = F k) := f2
                            clear t2 f2
                            by_cases e1 : fi k = c
                            · subst e1
                              by_cases e2 : dist (ti k) = r
                              · have q2 : (dist (ti k) == (d : Int) - (t : Int) - 1) = true := by rw [beq_iff_eq]; omega
                                obtain ⟨b, off, ha0, hc⟩ := h.outer (by omega)
                                subst ha0
                                have hbl : b < W.heap.size := World.block_lt_of_cell? _ _ (hc k hkN).2
                                have g4 : wr.cell? ⟨b, off + k * 2 + 1, none⟩ = some (.string (T k)) := (hst.below.cell (p := ⟨b, off + k * 2 + 1, none⟩) hbl).trans (hc k hkN).2
                                have hDT : Dst (adj F T N) up r (T k) := by rw [← Ht2.out]; exact hex.dst t1 e2
                                have hpick : pick (adj F T N) δ r (nm2 (fi k)) = some (T k) := pick_link hδ.out hkN Hf2.out.symm hDT (fun i' hi' ⟨x1, x2⟩ => by
                                  obtain ⟨p1, p2⟩ := hnum.f i' (by omega)
                                  obtain ⟨p3, p4⟩ := hnum.t i' (by omega)
                                  exact hno.out i' hi' ⟨hnum.inj _ _ p1 f1 (p2.trans x1), hex.of_dst p3 (by rw [p4]; exact x2)⟩)
                                have hgr := gr_link hpick
                                have Hgr : Hid (gr (adj F T N) δ (r + 1) (nm2 (fi k)) = T k :: gr (adj F T N) δ r (T k)) := hgr
                                have hcell := lit_cell wr (T k)
                                have d3 : decide ((k : Int) < 0) = false := by simp
                                have Hol : Hid (ol.length = t + 1) := hol
                                have E2 : Hid (dist (ti k) = r) := e2
                                have hlen : ol.length + 1 ≤ 1099511627776 := by omega
                                clear hgr hpick hc hol e2
                                go_wp2_with (at_builtin; refine wpList_append_que rfl (.tmp 191) (.tmp 197) rfl (hq.alloc _) rfl wr.heap.size 1 (T k) rfl hcell hlen ?_; intro v' w' b' hq' hb' hg')
                                go_roundw
                                case rel =>
                                  refine ⟨t + 1, ti k, by omega, by go_num, rfl, t1, ol ++ [T k], b', hq', ?_, (hst.alloc _).grown hg' hob, ?_, ?_, ?_⟩
                                  · rcases hb' with rfl | hb'
                                    · exact hob
                                    · have := hst.rd.lt; simp at hb'; omega
                                  · rw [show d - (t + 1) = r by omega, Ht2.out]; exact hDT
                                  · rw [show d - (t + 1) = r by omega, Ht2.out, ← Heq.out, Hgr.out]; simp
                                  · rw [List.length_append, Hol.out]; rfl
                                case measure => simp [intOf]; omega
                              · have q2 : (dist (ti k) == (d : Int) - (t : Int) - 1) = false := by rw [beq_eq_false_iff_ne]; omega
                                have E2 : Hid (¬ dist (ti k) = r) := e2
                                clear e2
                                go_wp2_with fail
                                go_roundw
                                case rel => exact ⟨k + 1, by omega, rfl, by go_num, trivial, (fun i' hi' => by
                                  by_cases e : i' = k
                                  · subst e; exact fun ⟨_, x2⟩ => E2.out x2
                                  · exact hno.out i' (by omega) : ∀ i', i' < k + 1 → ¬ (fi i' = fi k ∧ dist (ti i') = r))⟩
                                case measure => simp [intOf]; omega
                            · have q1 : ((fi k : Int) == (c : Int)) = false := by rw [beq_eq_false_iff_ne]; omega
                              have q3 : (fi k == c) = false := by rw [beq_eq_false_iff_ne]; exact e1
                              have E1 : Hid (¬ fi k = c) := e1
                              go_wp2_with fail
                              go_roundw
                              case rel => exact ⟨k + 1, by omega, rfl, by go_num, trivial, (fun i' hi' => by
                                by_cases e : i' = k
                                · subst e; exact fun ⟨x1, _⟩ => E1.out x1
                                · exact hno.out i' (by omega) : ∀ i', i' < k + 1 → ¬ (fi i' = c ∧ dist (ti i') = r))⟩
                              case measure => simp [intOf]; omega
                          · exfalso
                            obtain ⟨y, hy, hdy⟩ := hdc.first
                            obtain ⟨i, i1, i2, i3⟩ := mem_adj.1 hy
                            obtain ⟨p1, p2⟩ := hnum.f i i1
                            obtain ⟨p3, p4⟩ := hnum.t i i1
                            exact hno.out i (by omega) ⟨hnum.inj _ _ p1 hcn (p2.trans i2), hex.of_dst p3 (by rw [p4, i3]; exact hdy)⟩
                      · obtain rfl : d = t := by omega
                        have Heq : Hid (ol = lo :: gr (adj F T N) δ d lo) := by
                          rw [Nat.sub_self] at heq
                          have : gr (adj F T N) δ 0 (nm2 c) = [] := rfl
                          rw [this, List.append_nil] at heq
                          exact heq
                        clear heq
                        go_wp2_with fail
                        go_ret
                        exact ⟨hst.below, .inr ⟨_, ob, d, rfl, Hd.out, hdst, by rw [← Heq.out]; exact hq⟩⟩
                · have hpn := hbf.few rfl
                  have hbf' := hbf.next hnum hN
                  go_wp2_with fail
                  go_roundw
                  case rel => exact ⟨p + 1, dist, by omega, by go_num, hst, hbf'⟩
                  case measure => simp [intOf]; omega
end Go.Proofs.Qxb6600574a
