/-
  FnChainIsFirstOfShortest (3): its walk.
-/
import Derived.Test.Qxb6600574aChain
import Derived.Test.Qxb6600574aShort
namespace Go.Proofs.Qxb6600574a
open Go.RowKit

theorem below_drawn {w w' : World} (h : ∃ q, w' = w.drewN q) (H : Nat) : Below H w w' := by
  obtain ⟨q, rfl⟩ := h
  exact ⟨rfl, rfl, rfl, Nat.le_refl _, fun _ _ => rfl⟩

theorem adj_size {F T : Nat → ByteArray} {N : Nat} (h : ∀ i, i < N → (T i).size ≤ maxLen) : ∀ x y, y ∈ adj F T N x → y.size ≤ maxLen := fun x y hy => by
  obtain ⟨i, hi, rfl⟩ := adj_T x y hy
  exact h i hi

/-- The two answers are the same. -/
theorem same_ans {w : World} {v1 v2 : Value} {b1 b2 : Nat} {xs : List ByteArray} (h1 : Que w b1 v1 xs) (h2 : Que w b2 v2 xs) (hx : xs ≠ []) :
    Calls Try.prog 14 #[v1, v2] w fun e w' => e = .returned (.bool true) ∧ ∃ q, w' = w.drewN q := by
  obtain ⟨o1, c1, rfl, s1, s2, _, s4⟩ := h1.spell hx
  obtain ⟨o2, c2, rfl, _, _, _, u4⟩ := h2.spell hx
  exact same_some w xs.length b1 o1 c1 b2 o2 c2 (fun i => xs.getD i ⟨#[]⟩) (by omega) (fun i hi => s4 i _ (by simp [List.getD, hi])) (fun i hi => u4 i _ (by simp [List.getD, hi]))

set_option maxHeartbeats 2000000 in
theorem law_walk (w : World) (a0 : Option Addr) (N c0 : Nat) (F T : Nat → ByteArray) (h : LIn w a0 N F T) (a1 : Option Addr) (M c1 : Nat) (A : Nat → ByteArray) (h1 : SIn w a1 M A) (hN : N ≤ maxLen) (hM : M ≤ maxLen)
    (hn0 : Hid (a0 = none → N = 0)) (hn1 : Hid (a1 = none → M = 0)) (lo up : ByteArray) (hlo : lo.size ≤ maxLen) (hup : up.size ≤ maxLen) :
    Calls Try.prog 3 #[.slice a0 N c0, .slice a1 M c1, .string lo, .string up] w fun e w' => e = .returned (.bool true) ∧ Below w.heap.size w w' := by
  obtain ⟨δ, hδ0⟩ := isDst_is (adj F T N) up
  have hδ : Hid (IsDst (adj F T N) up δ) := hδ0
  clear hδ0
  go_enter Try.func3, Try.ntmps3
  go_wp2_with fail
  refine (guard6 w a0 N c0 F T h a1 M c1 A h1 hN hM lo up hlo hup).mono ?_
  rintro e w' ⟨r, rfl, hw, hp⟩
  obtain rfl := hw.symm
  cases r
  · clear hp
    go_wp2_with fail
    go_ret
    exact ⟨rfl, Below.refl _ _⟩
  have hsm := hp rfl
  clear hp
  unfold maxLen at hN hM
  have hlo' := hlo
  have hup' := hup
  unfold maxLen at hlo' hup'
  by_cases k1 : lo.size ≤ 1048576
  · by_cases k2 : up.size ≤ 1048576
    · go_wp2_with fail
      refine (guard7 w a0 N c0 F T h a1 M c1 A h1 hsm (lo.size + up.size) (by omega)).mono ?_
      rintro e w1 ⟨r, rfl, hw1, hp⟩
      have hb1 := below_drawn hw1 w.heap.size
      cases r
      · obtain ⟨hN4, hM4⟩ := hp rfl
        clear hp
        have h' := h.below hb1
        have h1' := h1.below hb1
        clear hN hM hsm hw1 h h1
        go_wp2_with fail
        refine (copy_links w1 a0 N c0 F T h' (by omega) hn0).mono ?_
        rintro e w2 ⟨a0', c0', rfl, hL2, hb2⟩
        have h1' := h1'.below hb2
        have hbb2 := hb1.trans (hb2.mono hb1.size)
        clear h'
        go_wp2_with fail
        refine (copy_names w2 a1 M c1 A h1' (by omega) hn1).mono ?_
        rintro e w3 ⟨a1', c1', rfl, hS3, hb3⟩
        have hL3 := hL2.below hb3
        have hbb3 := hbb2.trans (hb3.mono hbb2.size)
        clear h1' hL2
        go_wp2_with fail
        refine (build_any w3 a0' N c0' F T hL3 a1' M c1' A hS3 (by omega) (by omega)).mono ?_
        rintro e w4 ⟨bm, rfl, hab⟩
        have hb4 := hab.below
        have hbb4 := hbb3.trans (hb4.mono hbb3.size)
        have hL4 := hL3.below hb4
        have hS4 := hS3.below hb4
        clear hL3 hS3
        go_wp2_with fail
        refine (hierarchy_any bm w4).mono ?_
        rintro e w5 ⟨rfl, hc5, hb5⟩
        have hab5 := hab.later hb5
        have hbb5 := hbb4.trans (hb5.mono hbb4.size)
        have hL5 := hL4.below hb5
        have hS5 := hS4.below hb5
        have HT : Hid (∀ i, i < N → (T i).size ≤ maxLen) := fun i hi => (hL5.big i hi).2
        clear hab hL4 hS4
        go_wp2_with fail
        refine (zzchain_any δ w3 w5 w4.heap.size bm lo up hc5 _ _ _ hab5 N hN4 T adj_T (adj_size HT.out) (fun x => Nat.le_trans (adj_length F T N x) hN4) hlo hδ.out).mono ?_
        rintro e w6 ⟨hb6, hans⟩
        have hbb6 := hbb5.trans (hb6.mono hbb5.size)
        have hL6 := hL5.below hb6
        have hS6 := hS5.below hb6
        have Hsh : Hid (Calls Try.prog 13 #[.slice a0' N c0', .slice a1' M c1', .string lo, .string up] w6 fun e w' => Ans (adj F T N) δ up lo (declB N F T M A lo) w6 e w') := short_any δ w6 a0' N c0' F T hL6 a1' M c1' A hS6 hN4 hM4 lo up hlo hup hδ
        clear hc5 hab5 hL5 hS5 hL6 hS6
        rcases hans with ⟨rfl, hno⟩ | ⟨v, b, r, rfl, hd, hdst, hq⟩
        · have Hno : Hid (¬ declB N F T M A lo ∨ ∀ k, ¬ Wk (adj F T N) up k lo) := hno
          clear hno
          go_wp2_with fail
          refine Hsh.out.mono ?_
          rintro e w7 ⟨hb7, hans⟩
          have hbb7 := hbb6.trans (hb7.mono hbb6.size)
          rcases hans with ⟨rfl, _⟩ | ⟨v, b, r, rfl, hd, hdst, hq⟩
          · go_wp2_with fail
            refine (same_nil w7).mono ?_
            rintro e w8 ⟨rfl, hw8⟩
            go_wp2_with fail
            go_ret
            exact ⟨rfl, hbb7.trans (below_drawn hw8 _)⟩
          · exfalso
            rcases Hno.out with hn | hn
            · exact hn hd
            · exact hn r hdst.1
        · go_wp2_with fail
          refine Hsh.out.mono ?_
          rintro e w7 ⟨hb7, hans⟩
          have hbb7 := hbb6.trans (hb7.mono hbb6.size)
          rcases hans with ⟨rfl, hno⟩ | ⟨v', b', r', rfl, hd', hdst', hq'⟩
          · exfalso
            rcases hno with hn | hn
            · exact hn hd
            · exact hn r hdst.1
          · obtain rfl := hdst.unique hdst'
            have hq7 : Que w7 b v (lo :: gr (adj F T N) δ r lo) := hq.other hb7.size (fun hl => hb7.block _ hl)
            have Hs := same_ans hq7 hq' (by simp)
            clear hq hq7 hq'
            go_wp2_with fail
            refine Hs.mono ?_
            rintro e w8 ⟨rfl, hw8⟩
            go_wp2_with fail
            go_ret
            exact ⟨rfl, hbb7.trans (below_drawn hw8 _)⟩
      · clear hp h h1
        go_wp2_with fail
        go_ret
        exact ⟨rfl, hb1⟩
    · clear h h1
      go_wp2_with fail
      go_ret
      exact ⟨rfl, Below.refl _ _⟩
  · clear h h1
    go_wp2_with fail
    go_ret
    exact ⟨rfl, Below.refl _ _⟩
end Go.Proofs.Qxb6600574a
