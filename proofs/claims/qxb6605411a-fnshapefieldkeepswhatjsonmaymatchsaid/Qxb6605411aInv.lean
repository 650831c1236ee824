/-
  (*keysGiven).again, whatever it holds: the list 'ks' of the different keys given so far.
-/
import Derived.Test.Qxb6605411aAgain4
namespace Go.Proofs.Qxb6605411a
open Go.RowKit

def sa : Value → Option Addr | .slice a _ _ => a | _ => none
def sn : Value → Nat | .slice _ n _ => n | _ => 0
def sc : Value → Nat | .slice _ _ c => c | _ => 0

def kin (t : ByteArray) (ks : List ByteArray) : Bool := ks.any fun x => decide (x = t)
theorem kin_iff {t : ByteArray} {ks : List ByteArray} : kin t ks = true ↔ t ∈ ks := by
  unfold kin
  rw [List.any_eq_true]
  constructor
  · rintro ⟨x, hx, e⟩
    simp only [decide_eq_true_eq] at e
    rw [← e]; exact hx
  · intro h; exact ⟨t, h, by simp⟩
theorem kin_snoc (s : ByteArray) (l : List ByteArray) (t : ByteArray) : kin s (l ++ [t]) = (kin s l || decide (t = s)) := by
  unfold kin; rw [List.any_append]; simp
theorem kin_no {t : ByteArray} {ks : List ByteArray} : kin t ks = false ↔ t ∉ ks := by
  rw [← kin_iff]; simp

/-- Block G is a keysGiven that holds ks: the first 32 one by one, the rest in its map. What the slices lead to lies below block H. -/
def Inv (H : Nat) (w : World) (G : Nat) (ks : List ByteArray) : Prop :=
  H ≤ G ∧ ∃ F : Nat → Value, w.rowIs G 50 34 F ∧
    (∀ i, i < ks.length → i < 32 → F i = .slice (sa (F i)) (sn (F i)) (sc (F i)) ∧ KeyAt H w (sa (F i)) (sn (F i)) (ks.getD i ByteArray.empty)) ∧
    F 32 = .int .i64 (min ks.length 32 : Nat) ∧
    ((ks.length ≤ 32 ∧ F 33 = .map none) ∨
      (32 < ks.length ∧ ∃ mb, F 33 = .map (some mb) ∧ H ≤ mb ∧ strMap Try.prog 9 w mb (ks.length - 32) (fun s => if kin s (ks.drop 32) then some (.bool true) else none)))

theorem inv_drawn {H : Nat} {w w' : World} {G : Nat} {ks : List ByteArray} (h : Inv H w G ks) (hw : ∃ q, w' = w.drewN q) : Inv H w' G ks := by
  obtain ⟨q, rfl⟩ := hw
  obtain ⟨hG, F, hrow, hF, h32, hm⟩ := h
  refine ⟨hG, F, hrow, hF, h32, ?_⟩
  rcases hm with hm | ⟨hl, mb, h33, hHb, hmap⟩
  · exact .inl hm
  · exact .inr ⟨hl, mb, h33, hHb, hmap.drewN q⟩

theorem mem_split (ks : List ByteArray) (t : ByteArray) : t ∈ ks ↔ (∃ j, j < min ks.length 32 ∧ ks.getD j ByteArray.empty = t) ∨ t ∈ ks.drop 32 := by
  constructor
  · intro h
    obtain ⟨j, hj, e⟩ := List.getElem_of_mem h
    by_cases hlt : j < 32
    · exact .inl ⟨j, by omega, by simp [List.getD, hj, e]⟩
    · refine .inr (List.mem_iff_getElem.2 ⟨j - 32, by simp; omega, ?_⟩)
      rw [List.getElem_drop]
      rw [← e]
      congr 1
      omega
  · rintro (⟨j, hj, e⟩ | h)
    · have hj' : j < ks.length := by omega
      have : ks.getD j ByteArray.empty = ks[j] := by simp [List.getD, hj']
      rw [← e, this]
      exact List.getElem_mem _
    · exact List.mem_of_mem_drop h

theorem getD_snoc_old (ks : List ByteArray) (t : ByteArray) {i : Nat} (h : i < ks.length) : (ks ++ [t]).getD i ByteArray.empty = ks.getD i ByteArray.empty := by
  simp [List.getD, List.getElem?_append_left h]
theorem getD_snoc_new (ks : List ByteArray) (t : ByteArray) : (ks ++ [t]).getD ks.length ByteArray.empty = t := by
  simp [List.getD]

/-- What the receiver holds behind the call. -/
def addKey (ks : List ByteArray) (t : ByteArray) : List ByteArray := if kin t ks then ks else ks ++ [t]

set_option maxHeartbeats 1000000 in
theorem again_any (H G : Nat) (ks : List ByteArray) (ka : Option Addr) (kn kc : Nat) (t : ByteArray) (w : World) (h : Inv H w G ks) (hk : KeyAt H w ka kn t) (hlen : ks.length ≤ 4096) :
    Calls Try.prog 24 #[.pointer (some ⟨G, 0, none⟩), .slice ka kn kc] w fun e w' => e = .returned (.bool (kin t ks)) ∧ Inv H w' G (addKey ks t) ∧ Below H w w' := by
  have hinv := h
  obtain ⟨hG, F, hrow, hF, h32, hm⟩ := h
  have hts : t.size ≤ maxLen := by have := hk.2.1; unfold maxLen; omega
  have hcell : ∀ i, i < min ks.length 32 → w.cell? ⟨G, i, none⟩ = some (.slice (sa (F i)) (sn (F i)) (sc (F i))) := fun i hi => by rw [hrow.cell (by omega)]; exact congrArg some (hF i (by omega) (by omega)).1
  have hkey : ∀ i, i < min ks.length 32 → KeyAt H w (sa (F i)) (sn (F i)) (ks.getD i ByteArray.empty) := fun i hi => (hF i (by omega) (by omega)).2
  have c32 : w.cell? ⟨G, 32, none⟩ = some (.int .i64 (min ks.length 32 : Nat)) := by rw [hrow.cell (by omega), h32]
  by_cases hin : t ∈ ks
  · have hadd : addKey ks t = ks := by unfold addKey; rw [if_pos (kin_iff.2 hin)]
    have hd : kin t ks = true := kin_iff.2 hin
    rw [hadd, hd]
    by_cases hfew : ∃ j, j < min ks.length 32 ∧ ks.getD j ByteArray.empty = t
    · refine (again_few H G (min ks.length 32) (fun i => sa (F i)) (fun i => sn (F i)) (fun i => sc (F i)) (fun i => ks.getD i ByteArray.empty) ka kn kc t w (by omega) c32 hcell hkey hk hfew).mono ?_
      rintro e w' ⟨rfl, hw⟩
      exact ⟨rfl, inv_drawn hinv hw, by obtain ⟨q, rfl⟩ := hw; exact below_drewN (Below.refl _ _) _⟩
    · have hdrop : t ∈ ks.drop 32 := ((mem_split ks t).1 hin).resolve_left hfew
      have hl : 32 < ks.length := by
        have := List.length_pos_of_mem hdrop
        simp at this
        omega
      obtain ⟨mb, h33, hHb, hmap⟩ : ∃ mb, F 33 = .map (some mb) ∧ H ≤ mb ∧ strMap Try.prog 9 w mb (ks.length - 32) (fun s => if kin s (ks.drop 32) then some (.bool true) else none) := by
        rcases hm with ⟨h, _⟩ | ⟨_, h⟩
        · omega
        · exact h
      refine (again_many H G (min ks.length 32) (fun i => sa (F i)) (fun i => sn (F i)) (fun i => sc (F i)) (fun i => ks.getD i ByteArray.empty) ka kn kc t (.map (some mb)) w (by omega) c32 (by rw [hrow.cell (by omega), h33]) hcell hkey hk (fun j hj e => hfew ⟨j, hj, e⟩) ?_).mono ?_
      · intro q
        have := (hmap.drewN q).look Try.underlying9 Try.underlying37 (zero4 _) hts
        simp only [kin_iff.2 hdrop, if_true] at this
        exact this
      · rintro e w' ⟨rfl, hw⟩
        exact ⟨rfl, inv_drawn hinv hw, by obtain ⟨q, rfl⟩ := hw; exact below_drewN (Below.refl _ _) _⟩
  · have hadd : addKey ks t = ks ++ [t] := by unfold addKey; rw [if_neg (fun h => hin (kin_iff.1 h))]
    have hd : kin t ks = false := kin_no.2 hin
    rw [hadd, hd]
    have hnfew : ∀ j, j < min ks.length 32 → ks.getD j ByteArray.empty ≠ t := fun j hj e => hin ((mem_split ks t).2 (.inl ⟨j, hj, e⟩))
    have hndrop : t ∉ ks.drop 32 := fun h => hin ((mem_split ks t).2 (.inr h))
    rcases hm with ⟨hl, h33⟩ | ⟨hl, mb, h33, hHb, hmap⟩
    · by_cases hlt : ks.length < 32
      · have em : min ks.length 32 = ks.length := by omega
        rw [em] at h32 hcell hkey hnfew
        refine (again_add H G ks.length F (fun i => sa (F i)) (fun i => sn (F i)) (fun i => sc (F i)) (fun i => ks.getD i ByteArray.empty) ka kn kc t (.map none) w hG hlt hrow h32 h33 (fun i hi => (hF i hi (by omega)).1) hkey hk hnfew ?_).mono ?_
        · intro q
          exact Maps.look_nil (k := 9) (kl := .string t.data.toList) false (Maps.string_keyed Try.underlying9) Try.underlying37 (zero4 _) (WideMaps.keyOf_string_mk Try.underlying9 hts)
        · rintro e w' ⟨rfl, hrow', hb⟩
          refine ⟨rfl, ⟨hG, _, hrow', fun i hi hi32 => ?_, ?_, .inl ⟨by simp; omega, ?_⟩⟩, hb⟩
          · by_cases e : i = ks.length
            · subst e
              have ev : putFew F ks.length (.slice ka kn kc) ks.length = .slice ka kn kc := by
                unfold putFew; rw [if_neg (by omega), if_pos rfl]
              rw [ev, getD_snoc_new]
              exact ⟨rfl, hk.below hb⟩
            · have hi' : i < ks.length := by simp at hi; omega
              have ev : putFew F ks.length (.slice ka kn kc) i = F i := by
                unfold putFew; rw [if_neg (by omega), if_neg e]
              rw [ev, getD_snoc_old ks t hi']
              exact ⟨(hF i hi' hi32).1, (hF i hi' hi32).2.below hb⟩
          · unfold putFew
            rw [if_pos rfl]
            have : min (ks ++ [t]).length 32 = ks.length + 1 := by simp; omega
            rw [this]
            simp
          · unfold putFew
            rw [if_neg (by omega), if_neg (by omega)]
            exact h33
      · have em : min ks.length 32 = 32 := by omega
        rw [em] at h32 hkey hnfew
        refine (again_make H G F (fun i => sa (F i)) (fun i => sn (F i)) (fun i => sc (F i)) (fun i => ks.getD i ByteArray.empty) ka kn kc t w hrow h32 h33 (fun i hi => (hF i (by omega) hi).1) hkey hk hnfew hG).mono ?_
        rintro e w' ⟨rfl, hrow', hmap', hb⟩
        refine ⟨rfl, ⟨hG, _, hrow', fun i hi hi32 => ?_, ?_, .inr ⟨by simp; omega, w.heap.size, rfl, ?_, ?_⟩⟩, hb⟩
        · have hi' : i < ks.length := by omega
          have ev : (if i = 33 then Value.map (some w.heap.size) else F i) = F i := by rw [if_neg (by omega)]
          rw [ev, getD_snoc_old ks t hi']
          exact ⟨(hF i hi' hi32).1, (hF i hi' hi32).2.below hb⟩
        · have : min (ks ++ [t]).length 32 = 32 := by simp; omega
          rw [this, if_neg (by omega)]
          exact h32
        · have := hrow.lt; omega
        · have e1 : (ks ++ [t]).length - 32 = 1 := by simp; omega
          rw [e1]
          refine hmap'.congr fun s => ?_
          have e2 : (ks ++ [t]).drop 32 = [t] := by
            rw [List.drop_append_of_le_length (by omega), List.drop_eq_nil_of_le (by omega)]; rfl
          rw [e2]
          by_cases es : s = t
          · subst es; simp [kin]
          · have : ¬ t = s := fun e => es e.symm
            simp [kin, es, this]
    · have em : min ks.length 32 = 32 := by omega
      rw [em] at h32 hkey hnfew
      refine (again_put H G F (fun i => sa (F i)) (fun i => sn (F i)) (fun i => sc (F i)) (fun i => ks.getD i ByteArray.empty) ka kn kc t mb _ _ w hrow h32 h33 (fun i hi => (hF i (by omega) hi).1) hkey hk hnfew hHb hmap (by omega) (by rw [kin_no.2 hndrop]; rfl)).mono ?_
      rintro e w' ⟨rfl, hrow', hmap', hb⟩
      refine ⟨rfl, ⟨hG, _, hrow', fun i hi hi32 => ?_, ?_, .inr ⟨by simp; omega, mb, h33, hHb, ?_⟩⟩, hb⟩
      · have hi' : i < ks.length := by omega
        rw [getD_snoc_old ks t hi']
        exact ⟨(hF i hi' hi32).1, (hF i hi' hi32).2.below hb⟩
      · have : min (ks ++ [t]).length 32 = 32 := by simp; omega
        rw [this]
        exact h32
      · have e1 : (ks ++ [t]).length - 32 = ks.length - 32 + 1 := by simp; omega
        rw [e1]
        refine hmap'.congr fun s => ?_
        rw [List.drop_append_of_le_length (by omega)]
        by_cases es : s = t
        · subst es; simp [kin_snoc]
        · have : ¬ t = s := fun e => es e.symm
          simp [kin_snoc, es, this]

theorem zzagain_any (H G : Nat) (ks : List ByteArray) (ka : Option Addr) (kn kc : Nat) (t : ByteArray) (w : World) (h : Inv H w G ks) (hk : KeyAt H w ka kn t) (hlen : ks.length ≤ 4096) :
    Calls Try.prog 15 #[.pointer (some ⟨G, 0, none⟩), .slice ka kn kc] w fun e w' => e = .returned (.bool (kin t ks)) ∧ Inv H w' G (addKey ks t) ∧ Below H w w' := by
  go_enter Try.func15, Try.ntmps15
  go_wp2_with fail
  refine (again_any H G ks ka kn kc t _ h hk hlen).mono ?_
  rintro e w' ⟨rfl, hi, hb⟩
  go_wp2_with fail
  go_ret
  exact ⟨rfl, hi, hb⟩
end Go.Proofs.Qxb6605411a
