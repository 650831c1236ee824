/-
  chain (17): its walk.
-/
import Derived.Test.Qxb6600574aChainSt
import Derived.Deep.LoopGhost
import Derived.Deep.DeepCutAuto
namespace Go.Proofs.Qxb6600574a
open Go.RowKit

set_option maxHeartbeats 1000000 in
theorem chain_no (W : World) (hb bm : Nat) (lo up : ByteArray) (hc : W.cell? ⟨hb, 0, none⟩ = some (.map (some bm))) (v : Value)
    (hlk : (Instr.lookup 30 (.map (some bm)) (.string lo) true).run Try.prog W = .ok (.tuple #[v, .bool false]) W) :
    Calls Try.prog 17 #[.pointer (some ⟨hb, 0, none⟩), .string lo, .string up] W fun e w' => e = .returned (.slice none 0 0) ∧ w' = W := by
  go_enter Try.func17, Try.ntmps17
  go_wp2
  go_ret
  exact ⟨rfl, rfl⟩

/-- The state of the way back. -/
structure Bck (G : ByteArray → List ByteArray) (δ : Nat → ByteArray → Bool) (up : ByteArray) (W wr : World) (g : Nat → Nd) (n p a : Nat) (cv : Value) : Prop where
  st : ∃ r cb cl, Back G up g p a r ∧ Que wr cb cv cl ∧ cl.reverse = (g a).s :: gr G δ r (g a).s ∧ cl.length + a ≤ p + 1 ∧ W.heap.size ≤ cb ∧ cb ≠ W.heap.size
  fm : Fmap wr W.heap.size g n
  below : Below W.heap.size W wr

set_option maxHeartbeats 4000000 in
theorem chain_yes (δ : Nat → ByteArray → Bool) (W0 W : World) (hb bm : Nat) (lo up : ByteArray) (hc : W.cell? ⟨hb, 0, none⟩ = some (.map (some bm))) (v : Value)
    (D : ByteArray → Prop) (G : ByteArray → List ByteArray) (mx : Nat) (hab : Abv W0 W bm D G mx)
    (hlk : (Instr.lookup 30 (.map (some bm)) (.string lo) true).run Try.prog W = .ok (.tuple #[v, .bool true]) W) (N : Nat) (hN : N ≤ 4096) (T : Nat → ByteArray)
    (hG : Hid (∀ x y, y ∈ G x → ∃ i, i < N ∧ T i = y)) (hGs : Hid (∀ x y, y ∈ G x → y.size ≤ maxLen)) (hGl : Hid (∀ x, (G x).length ≤ 4096)) (hlo : lo.size ≤ maxLen) (hd : D lo) (hδ : Hid (IsDst G up δ)) :
    Calls Try.prog 17 #[.pointer (some ⟨hb, 0, none⟩), .string lo, .string up] W fun e w' => Ans G δ up lo (D lo) W e w' := by
  have hmk := @run_makeMap Try.prog
  obtain ⟨W1, hst, hchn⟩ := chn_start W lo hlo
  have Hd : Hid (D lo) := hd
  clear hd
  go_enter Try.func17, Try.ntmps17
  go_wp2
  clear hmk hst hlk
  go_loopg [10] (N + 1) (fun k qv wr => ∃ g n p, N + 1 - p ≤ k ∧ Bfs G up lo g n p 0 ∧ Chn W wr W.heap.size g n n p qv)
  case atStart => exact ⟨_, 1, 0, by omega, bfs_start G up lo, hchn⟩
  case round =>
    clear hchn
    obtain ⟨g, n, p, hk, hbfs, hchn⟩ := hrel
    have hfew := hbfs.few hG.out
    have hple := hbfs.le
    obtain ⟨qb, q1, q2, q3⟩ := hchn.que
    by_cases hlt : p < n
    · rw [names_cons hlt] at q1
      obtain ⟨off, cap, rfl, c1, c2, c3, c4⟩ := q1.spell (by simp)
      have g0 : wr.cell? ⟨qb, off, none⟩ = some (.string (g p).s) := c4 0 _ rfl
      simp only [List.length_cons] at c1 q1
      have Hq1 : Hid (cap = 1 → Que wr qb (.slice (some ⟨qb, off, none⟩) (names g (p + 1) n).length 0) (names g (p + 1) n)) := fun hcap => by
        have := q1.tail _ (by rw [if_pos hcap])
        rwa [show cap - 1 = 0 by omega] at this
      have Hq2 : Hid (¬ cap = 1 → Que wr qb (.slice (some ⟨qb, off + 1, none⟩) (names g (p + 1) n).length (cap - 1)) (names g (p + 1) n)) := fun hcap => q1.tail _ (by rw [if_neg hcap])
      have Hch : Hid (∀ qv, Que wr qb qv (names g (p + 1) n) → Chn W wr W.heap.size g n n (p + 1) qv) := fun qv hq => ⟨hchn.fm, ⟨qb, hq, q2, q3⟩, hchn.big, hchn.base, hchn.below⟩
      have Hbig : Hid (∀ i, i < n → (g i).s.size ≤ maxLen) := hchn.big
      have hfm := hchn.fm
      have hbel := hchn.below
      unfold maxLen at c2
      clear c4 q1 hchn
      go_upto_region 8 with (fail)
      go_cut [10] (fun qv wc => Que wc qb qv (names g (p + 1) n) ∧ wc = wr)
      case first =>
        go_wp2_with fail
        · go_meet
          exact ⟨Hq1.out (by assumption), rfl⟩
        · go_meet
          exact ⟨Hq2.out (by assumption), rfl⟩
      case rest =>
        obtain ⟨hq, hwc⟩ := hcut
        subst hwc
        clear Hq1 Hq2 g0 c1 c2
        by_cases hup : (g p).s = up
        · have t1 := eqs_true hup
          have Hup : Hid ((g p).s = up) := hup
          have hb0 : Back G up g p p 0 := hbfs.back0 hup
          clear hup Hch hq
          go_wp2_with fail
          clear t1
          go_loopg [11, 12] p (fun k nv cv wr => ∃ a, a ≤ k ∧ nv = .string (g a).s ∧ Bck G δ up W wr g n p a cv)
          case atStart =>
            refine ⟨p, Nat.le_refl _, rfl, ⟨0, wc.heap.size, [(g p).s], hb0, que_lit _ _, rfl, by simp only [List.length_singleton]; omega, ?_, ?_⟩, hfm.alloc _, hbel.alloc hbel.size _⟩
            · exact hbel.size
            · have := hfm.lt; omega
          case round =>
            clear hb0 hfm hbel
            obtain ⟨a, hak, rfl, hst⟩ := hrel
            obtain ⟨⟨r, cb, cl, hbk, hcq, hcl, hcln, hcb, hcb2⟩, hfm, hbel⟩ := hst
            have hap := hbk.le
            by_cases ha : a = 0
            · subst ha
              have hroot := hbfs.root.1
              have t2 := eqs_true hroot
              have hdst := hbk.dst hbfs hlt Hup.out
              rw [hroot] at hcl hdst
              have Hcl : Hid (cl.reverse = lo :: gr G δ r lo) := hcl
              clear hcl hroot
              go_wp2_with fail
              refine (reverse_que hcq (fun e => by have := Hcl.out; rw [e] at this; simp at this)).mono ?_
              rintro e w2 ⟨rfl, hq2, hg2⟩
              go_wp2_with fail
              go_ret
              refine ⟨hbel.grown hg2 hbel.size (fun i hi => by cases hi; exact hcb), .inr ⟨_, cb, r, rfl, Hd.out, hdst, ?_⟩⟩
              rw [← Hcl.out]
              exact hq2
            · have t2 := eqs_false (fun e : (g a).s = lo => ha (hbfs.inj a 0 (by omega) hbfs.pos (e.trans hbfs.root.1.symm)))
              have e1 := hfm.look (by omega) (by omega) (Hbig.out a (by omega))
              obtain ⟨hbk', hgr⟩ := hbk.step hδ.out hbfs hlt Hup.out (by omega)
              have hpar := (hbfs.tree a (by omega) (by omega)).1
              have hcell := lit_cell wr (g (g a).par).s
              have Hcl : Hid (cl.reverse = (g a).s :: gr G δ r (g a).s) := hcl
              have Hgr : Hid (gr G δ (r + 1) (g (g a).par).s = (g a).s :: gr G δ r (g a).s) := hgr
              clear hcl hgr
              go_wp2_with (at_builtin; refine wpList_append_que rfl (.tmp 52) (.tmp 54) rfl (hcq.alloc _) rfl wr.heap.size 1 (g (g a).par).s rfl hcell (by omega) ?_; intro v' w' b' hq' hb' hg')
              go_roundg (a - 1)
              case measure => omega
              case rel =>
                refine ⟨(g a).par, by omega, rfl, ⟨r + 1, b', cl ++ [(g (g a).par).s], hbk', hq', ?_, ?_, ?_, ?_⟩, (hfm.alloc _).grown hg' hcb2, ?_⟩
                · rw [List.reverse_append, Hcl.out, Hgr.out]; rfl
                · simp only [List.length_append, List.length_singleton]; omega
                · rcases hb' with rfl | hb'
                  · exact hcb
                  · have := hbel.size; simp at hb'; omega
                · rcases hb' with rfl | hb'
                  · exact hcb2
                  · have := hfm.lt; simp at hb'; omega
                · exact (hbel.alloc hbel.size _).grown hg' (hbel.alloc hbel.size _).size (fun i hi => by cases hi; exact hcb)
        · have t1 := eqs_false hup
          have Hup : Hid ((g p).s ≠ up) := hup
          have hch := Hch.out _ hq
          have h0 : wc.cell? ⟨hb, 0, none⟩ = some (.map (some bm)) := (hbel.cell (p := ⟨hb, 0, none⟩) (World.block_lt_of_cell? _ _ hc)).trans hc
          obtain ⟨rv, rb, hrv, hrq, _⟩ := hab.look (s := (g p).s) (Hbig.out p hlt)
          have e1 := hrv wc hbel
          obtain ⟨ao, roff, rcap, rfl, r1, r2, r3, r4, _⟩ := hrq
          have hlen := hGl.out (g p).s
          unfold maxLen at r2
          have R3 : Hid (0 < rcap → ao = some ⟨rb, roff, none⟩ ∧ rb < W.heap.size) := r3
          have R4 : Hid (∀ j u, (G (g p).s)[j]? = some u → W.cell? ⟨rb, roff + j, none⟩ = some (.string u)) := r4
          clear hup Hch hq hrv r3 r4 hfm hbel
          go_wp2_with fail
          clear e1 h0 t1
          go_loopw [10, 66] (fun qv i wr => ∃ q g' n', q ≤ (G (g p).s).length ∧ i = .int .i64 (q : Nat) ∧ Bfs G up lo g' n' p q ∧ Chn W wr W.heap.size g' n' n' (p + 1) qv ∧ Hid ((g' p).s = (g p).s) ∧ p < n') (fun _ i _ => (G (g p).s).length - (intOf i).toNat)
          case atStart => exact ⟨0, g, n, Nat.zero_le _, rfl, hbfs, hch, (rfl : (g p).s = (g p).s), hlt⟩
          case round =>
            clear hch hbfs hlt hple hfew
            obtain ⟨q, g', n', hql, rfl, hbfs, hch, Hgp, hlt⟩ := hrel
            have hfew := hbfs.few hG.out
            have hbel := hch.below
            by_cases hq : q < (G (g p).s).length
            · obtain ⟨hao, hrb⟩ := R3.out (by omega)
              subst hao
              obtain ⟨x, hx⟩ : ∃ x, (G (g p).s)[q]? = some x := ⟨_, List.getElem?_eq_getElem hq⟩
              have hmem : x ∈ G (g p).s := List.mem_of_getElem? hx
              have g1 : wr.cell? ⟨rb, roff + q, none⟩ = some (.string x) := (hbel.cell (p := ⟨rb, roff + q, none⟩) hrb).trans (R4.out q x hx)
              have l1 : (q : Int) < ((G (g p).s).length : Int) := by omega
              have hxs := hGs.out _ _ hmem
              have hx' : (G (g' p).s)[q]? = some x := by rw [Hgp.out]; exact hx
              have Hx' : Hid ((G (g' p).s)[q]? = some x) := hx'
              clear hx hx' hmem
              by_cases hseen : ∃ j, j < n' ∧ (g' j).s = x
              · obtain ⟨j, hj, hjx⟩ := hseen
                subst hjx
                obtain ⟨u, e2⟩ := hch.fm.seen hj hxs
                go_wp2_with fail
                go_roundw
                case rel => exact ⟨q + 1, g', n', by omega, by go_num, hbfs.seen Hx'.out hj rfl, hch, Hgp, hlt⟩
                case measure => simp [intOf]; omega
              · have hnew : ∀ j, j < n' → (g' j).s ≠ x := fun j hj e => hseen ⟨j, hj, e⟩
                obtain ⟨u, e2⟩ := hch.fm.unseen hnew hxs
                obtain ⟨w1, e3, hch1⟩ := hch.put (fun j h1 h2 => (hbfs.tree j h1 h2).1) (by omega) (by omega) hnew hxs hlt q ((g' p).lev + 1)
                rw [Hgp.out] at e3
                have hbfs' := hbfs.new hlt Hx'.out hnew (g' := ext g' n' ⟨x, p, q, (g' p).lev + 1⟩) (fun i hi => ext_old hi) (ext_new _ _ _)
                obtain ⟨fm1, ⟨qb1, hq1, hq2, hq3⟩, big1, base1, below1⟩ := hch1
                have hcell := lit_cell w1 x
                have hnl := names_length (ext g' n' ⟨x, p, q, (g' p).lev + 1⟩) (p + 1) n'
                have Hnew : Hid (∀ j, j < n' → (g' j).s ≠ x) := hnew
                have Hbig1 : Hid (∀ i, i < n' + 1 → (ext g' n' ⟨x, p, q, (g' p).lev + 1⟩ i).s.size ≤ maxLen) := big1
                clear hnew hseen big1 hch
                go_wp2_with (at_builtin; refine wpList_append_que rfl (.tmp 81) (.tmp 83) rfl (hq1.alloc _) rfl w1.heap.size 1 x rfl hcell (by omega) ?_; intro v' w' b' hq' hb' hg')
                go_roundw
                case rel =>
                  refine ⟨q + 1, ext g' n' ⟨x, p, q, (g' p).lev + 1⟩, n' + 1, by omega, by go_num, hbfs', ⟨(fm1.alloc _).grown hg' hq3, ⟨b', ?_, ?_, ?_⟩, Hbig1.out, base1, ?_⟩, (by rw [ext_old hlt]; exact Hgp.out : (ext g' n' ⟨x, p, q, (g' p).lev + 1⟩ p).s = (g p).s), by omega⟩
                  · have := names_snoc (g := ext g' n' ⟨x, p, q, (g' p).lev + 1⟩) (g' := ext g' n' ⟨x, p, q, (g' p).lev + 1⟩) (p := p + 1) (n := n') (by omega) (fun _ _ => rfl)
                    rw [this, ext_new]
                    exact hq'
                  · rcases hb' with rfl | hb'
                    · exact hq2
                    · have := below1.size; simp at hb'; omega
                  · rcases hb' with rfl | hb'
                    · exact hq3
                    · have := fm1.lt; simp at hb'; omega
                  · exact (below1.alloc below1.size _).grown hg' (below1.alloc below1.size _).size (fun i hi => by cases hi; exact hq2)
                case measure => simp [intOf]; omega
            · obtain rfl : q = (G (g p).s).length := by omega
              have hbfs' := hbfs.next hlt (by rw [Hgp.out]; exact Nat.le_refl _) (by rw [Hgp.out]; exact Hup.out)
              go_wp2_with fail
              go_roundg (N - p)
              case measure => omega
              case rel => exact ⟨g', n', p + 1, by omega, hbfs', hch⟩
    · obtain rfl : p = n := by omega
      rw [names_nil (Nat.le_refl _)] at q1
      obtain ⟨ao, cap, rfl, c1, c2⟩ := q1.len
      have hbel := hchn.below
      have hdry := hbfs.dry
      have Hdry : Hid (∀ k, ¬ Wk G up k lo) := hdry
      clear hdry
      go_wp2_with fail
      go_ret
      exact ⟨hbel, .inl ⟨rfl, .inr Hdry.out⟩⟩

theorem chain_any (δ : Nat → ByteArray → Bool) (W0 W : World) (hb bm : Nat) (lo up : ByteArray) (hc : W.cell? ⟨hb, 0, none⟩ = some (.map (some bm)))
    (D : ByteArray → Prop) (G : ByteArray → List ByteArray) (mx : Nat) (hab : Abv W0 W bm D G mx) (N : Nat) (hN : N ≤ 4096) (T : Nat → ByteArray)
    (hG : ∀ x y, y ∈ G x → ∃ i, i < N ∧ T i = y) (hGs : ∀ x y, y ∈ G x → y.size ≤ maxLen) (hGl : ∀ x, (G x).length ≤ 4096) (hlo : lo.size ≤ maxLen) (hδ : IsDst G up δ) :
    Calls Try.prog 17 #[.pointer (some ⟨hb, 0, none⟩), .string lo, .string up] W fun e w' => Ans G δ up lo (D lo) W e w' := by
  obtain ⟨v, h1, h2⟩ := hab.look_ok (s := lo) hlo
  by_cases hd : D lo
  · exact chain_yes δ W0 W hb bm lo up hc v D G mx hab (h1 hd) N hN T hG hGs hGl hlo hd hδ
  · refine (chain_no W hb bm lo up hc v (h2 hd)).mono ?_
    rintro e w' ⟨rfl, rfl⟩
    exact ⟨Below.refl _ _, .inl ⟨rfl, .inl hd⟩⟩

/-- ZZChain. -/
theorem zzchain_any (δ : Nat → ByteArray → Bool) (W0 W : World) (hb bm : Nat) (lo up : ByteArray) (hc : W.cell? ⟨hb, 0, none⟩ = some (.map (some bm)))
    (D : ByteArray → Prop) (G : ByteArray → List ByteArray) (mx : Nat) (hab : Abv W0 W bm D G mx) (N : Nat) (hN : N ≤ 4096) (T : Nat → ByteArray)
    (hG : ∀ x y, y ∈ G x → ∃ i, i < N ∧ T i = y) (hGs : ∀ x y, y ∈ G x → y.size ≤ maxLen) (hGl : ∀ x, (G x).length ≤ 4096) (hlo : lo.size ≤ maxLen) (hδ : IsDst G up δ) :
    Calls Try.prog 12 #[.pointer (some ⟨hb, 0, none⟩), .string lo, .string up] W fun e w' => Ans G δ up lo (D lo) W e w' := by
  have inner := chain_any δ W0 W hb bm lo up hc D G mx hab N hN T hG hGs hGl hlo hδ
  clear hG hGs hGl hab hc hδ
  go_enter Try.func12, Try.ntmps12
  go_wp2_with fail
  refine inner.mono ?_
  rintro e w' ⟨hbel, ⟨rfl, hn⟩ | ⟨v, b, r, rfl, hd, hr, hq⟩⟩
  · have Hn : Hid (¬ D lo ∨ ∀ k, ¬ Wk G up k lo) := hn
    clear hn
    go_wp2_with fail
    go_ret
    exact ⟨hbel, .inl ⟨rfl, Hn.out⟩⟩
  · go_wp2_with fail
    go_ret
    exact ⟨hbel, .inr ⟨v, b, r, rfl, hd, hr, hq⟩⟩
end Go.Proofs.Qxb6600574a
