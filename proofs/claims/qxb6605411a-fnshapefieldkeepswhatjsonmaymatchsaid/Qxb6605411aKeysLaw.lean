/-
  FnKeysGivenAgainReportsEarlierEqual: the parts of its walk.
-/
import Derived.Test.Qxb6605411aInv
namespace Go.Proofs.Qxb6605411a
open Go.RowKit

/-- WHAT CAME IN: a slice of N slices of bytes; the i-th reads as the string T i. -/
structure KIn (w : World) (a0 : Option Addr) (N : Nat) (A : Nat → Option Addr) (L C : Nat → Nat) (T : Nat → ByteArray) : Prop where
  outer : 0 < N → ∃ b off, a0 = some ⟨b, off, none⟩ ∧ ∀ i, i < N → w.cell? ⟨b, off + i, none⟩ = some (.slice (A i) (L i) (C i))
  nil : ∀ i, i < N → A i = none → L i = 0 ∧ C i = 0
  len : ∀ i, i < N → L i = (T i).size
  big : ∀ i, i < N → L i ≤ maxLen
  inner : ∀ i, i < N → Bytes w (A i) (L i) (byt (T i))

/-- A bool was said, nothing has turned; a yes says p. -/
def SaidB (e : Ending) (w w' : World) (p : Prop) : Prop := ∃ r : Bool, e = .returned (.bool r) ∧ w' = w ∧ (r = true → p)
theorem SaidB.no (w : World) (p : Prop) : SaidB (.returned (.bool false)) w w p := ⟨false, rfl, rfl, fun h => by cases h⟩
theorem SaidB.yes (w : World) {p : Prop} (h : p) : SaidB (.returned (.bool true)) w w p := ⟨true, rfl, rfl, fun _ => h⟩

def Small (N : Nat) (L : Nat → Nat) : Prop := N ≤ 1048576 ∧ ∀ i, i < N → L i ≤ 1048576

set_option maxHeartbeats 1000000 in
/-- The guard: where it says yes, every length is at most 1<<20. -/
theorem guard12 (w : World) (a0 : Option Addr) (N cap : Nat) (A : Nat → Option Addr) (L C : Nat → Nat) (T : Nat → ByteArray) (h : KIn w a0 N A L C T) (hN : N ≤ maxLen) :
    Calls Try.prog 12 #[.slice a0 N cap] w fun e w' => SaidB e w w' (Small N L) := by
  unfold maxLen at hN
  by_cases hN1 : N ≤ 1048576
  · have d1 : decide ((1048576 : Int) < (N : Int)) = false := by simp; omega
    go_enter Try.func12, Try.ntmps12
    go_wp2
    go_loop [3, 4] (fun z i => ∃ k s : Nat, k ≤ N ∧ s ≤ 1048576 ∧ i = .int .i64 k ∧ z = .int .i64 s ∧ Hid (∀ j, j < k → L j ≤ 1048576)) (fun _ i => N - (intOf i).toNat)
    case atStart => exact ⟨0, N, Nat.zero_le _, hN1, rfl, rfl, (fun j hj => by omega : ∀ j, j < 0 → L j ≤ 1048576)⟩
    case round =>
      obtain ⟨k, s, hk, hs, rfl, rfl, hg⟩ := hrel
      by_cases hlt : k < N
      · obtain ⟨b, off, rfl, hc⟩ := h.outer (by omega)
        have g0 := hc k hlt
        have l1 : (k : Int) < (N : Int) := by omega
        have hbig := h.big k hlt
        unfold maxLen at hbig
        clear hc
        by_cases hL : L k ≤ 1048576
        · by_cases hS : s + L k ≤ 1048576
          · go_wp2
            go_round
            case rel => exact ⟨k + 1, s + L k, by omega, hS, by go_num, by go_num, (fun j hj => by
              by_cases e : j = k
              · rw [e]; exact hL
              · exact hg.out j (by omega) : ∀ j, j < k + 1 → L j ≤ 1048576)⟩
            case measure => simp [intOf]; omega
          · go_wp2
            go_ret
            exact SaidB.no _ _
        · go_wp2
          go_ret
          exact SaidB.no _ _
      · go_wp2
        go_ret
        exact SaidB.yes _ ⟨hN1, fun i hi => hg.out i (by omega)⟩
  · clear h
    go_enter Try.func12, Try.ntmps12
    go_wp2
    go_ret
    exact SaidB.no _ _

/-- The keys given in the first i rounds, each once. -/
def ksAt (T : Nat → ByteArray) : Nat → List ByteArray
  | 0 => []
  | i + 1 => addKey (ksAt T i) (T i)

theorem mem_addKey {ks : List ByteArray} {t s : ByteArray} : s ∈ addKey ks t ↔ s ∈ ks ∨ s = t := by
  unfold addKey
  split
  · rename_i h
    have := kin_iff.1 h
    constructor
    · exact .inl
    · rintro (h | rfl)
      · exact h
      · exact this
  · simp

theorem mem_ksAt (T : Nat → ByteArray) (s : ByteArray) : ∀ i, s ∈ ksAt T i ↔ ∃ j, j < i ∧ T j = s
  | 0 => by simp [ksAt]
  | i + 1 => by
    rw [ksAt, mem_addKey, mem_ksAt T s i]
    constructor
    · rintro (⟨j, hj, e⟩ | e)
      · exact ⟨j, by omega, e⟩
      · exact ⟨i, by omega, e.symm⟩
    · rintro ⟨j, hj, e⟩
      by_cases h : j = i
      · subst h; exact .inr e.symm
      · exact .inl ⟨j, by omega, e⟩

theorem length_ksAt (T : Nat → ByteArray) : ∀ i, (ksAt T i).length ≤ i
  | 0 => by simp [ksAt]
  | i + 1 => by
    have := length_ksAt T i
    unfold ksAt addKey
    split
    · omega
    · simp; omega

theorem addKey_old {ks : List ByteArray} {t : ByteArray} (h : t ∈ ks) : addKey ks t = ks := by unfold addKey; rw [if_pos (kin_iff.2 h)]

/-- The copies made so far: the first k, in the row at block B; their bytes lie behind it. -/
def Copied (w : World) (B N k : Nat) (V : Nat → Value) (T : Nat → ByteArray) : Prop :=
  B < w.heap.size ∧ w.rowIs B 22 N (fun j => if j < k then V j else .slice none 0 0) ∧
  ∀ j, j < k → V j = .slice (sa (V j)) (sn (V j)) (sc (V j)) ∧ KeyAt w.heap.size w (sa (V j)) (sn (V j)) (T j) ∧ ∀ b o s, sa (V j) = some ⟨b, o, s⟩ → B < b

theorem keyat_setCell {H : Nat} {w : World} {a : Option Addr} {n : Nat} {t : ByteArray} (h : KeyAt H w a n t) {p : Addr} (hp : ∀ b o s, a = some ⟨b, o, s⟩ → b ≠ p.block) (v : Value) : KeyAt H (w.setCell p v) a n t := by
  obtain ⟨h1, h2, h3⟩ := h
  refine ⟨h1, h2, ?_⟩
  rcases h3 with h3 | ⟨b, ha, hlt, hc⟩
  · exact .inl h3
  · refine .inr ⟨b, ha, hlt, fun i hi => ?_⟩
    rw [World.cell?_setCell_other _ _ _ _ (fun e => hp b 0 none ha (by have := congrArg Addr.block e; simpa using this.symm))]
    exact hc i hi

theorem copied_step {w w1 : World} {B N k : Nat} {V : Nat → Value} {T : Nat → ByteArray} (h : Copied w B N k V T) (hb : Below w.heap.size w w1) {a : Option Addr} {n c : Nat}
    (hk : KeyAt w1.heap.size w1 a n (T k)) (ha : ∀ b o s, a = some ⟨b, o, s⟩ → B < b) :
    Copied (w1.setCell ⟨B, k, none⟩ (.slice a n c)) B N (k + 1) (fun j => if j = k then .slice a n c else V j) T := by
  obtain ⟨hB, hrow, hV⟩ := h
  have hz := hb.size
  have hs : (w1.setCell ⟨B, k, none⟩ (.slice a n c)).heap.size = w1.heap.size := by simp [World.setCell]
  have hrow1 : w1.rowIs B 22 N (fun j => if j < k then V j else .slice none 0 0) := hrow.of_block (hb.block B hB)
  refine ⟨by rw [hs]; omega, (hrow1.set k _).congr (fun j _ => ?_), fun j hj => ?_⟩
  · by_cases e : j = k
    · subst e; simp
    · simp only [e, if_false]
      by_cases h : j < k
      · rw [if_pos h, if_pos (by omega)]
      · rw [if_neg h, if_neg (by omega)]
  · rw [hs]
    by_cases e : j = k
    · subst e
      simp only [if_true]
      exact ⟨rfl, keyat_setCell hk (fun b o s e => by have := ha b o s e; show b ≠ B; omega) _, ha⟩
    · simp only [e, if_false]
      obtain ⟨h1, h2, h3⟩ := hV j (by omega)
      exact ⟨h1, keyat_setCell ((h2.below hb).mono hz) (fun b o s e => by have := h3 b o s e; show b ≠ B; omega) _, h3⟩

/-- zzCopyBytes, once more: where the copy lies, what it reads as. -/
theorem copy_key (a : Option Addr) (n c : Nat) (t : ByteArray) (w : World) (hn : n = t.size) (hb : t.size ≤ 1048576) (hnil : a = none → n = 0 ∧ c = 0) (h : Bytes w a n (byt t)) :
    Calls Try.prog 8 #[.slice a n c] w fun e w' => ∃ a' c', e = .returned (.slice a' n c') ∧ KeyAt w'.heap.size w' a' n t ∧ (∀ b o s, a' = some ⟨b, o, s⟩ → w.heap.size ≤ b) ∧ Below w.heap.size w w' := by
  cases a with
  | none =>
    obtain ⟨rfl, rfl⟩ := hnil rfl
    refine (copy_nil w).mono ?_
    rintro e w' ⟨rfl, rfl⟩
    exact ⟨none, 0, rfl, ⟨hn, hb, .inl ⟨rfl, hn.symm⟩⟩, (fun b o s e => by cases e), Below.refl _ _⟩
  | some x =>
    refine (copy_some x n c (byt t) (by omega) w h).mono ?_
    rintro e w' ⟨rfl, hrow, hsz, hb'⟩
    exact ⟨_, _, rfl, ⟨hn, hb, .inr ⟨_, rfl, by omega, fun i hi => hrow.cell (by omega)⟩⟩, (fun b o s e => by cases e; exact Nat.le_refl _), hb'⟩

theorem Try.info22 : (Try.prog.info? 22).map (fun i => (i.zero, i.size, i.bytes)) = some (some (.slice none 0 0), 1, 24) := by kernel_rfl

set_option maxHeartbeats 400000 in
theorem new_any (w : World) : Calls Try.prog 13 #[] w fun e w' => e = .returned (.pointer (some ⟨w.heap.size, 0, none⟩)) ∧ Inv w.heap.size w' w.heap.size [] ∧ Below w.heap.size w w' := by
  go_enter Try.func13, Try.ntmps13
  go_wp2
  go_ret
  refine ⟨rfl, ⟨Nat.le_refl _, (fun i => if i = 32 then .int .i64 0 else if i = 33 then .map none else .slice none 0 0), ?_, fun i hi => by simp at hi, rfl, .inl ⟨by simp, rfl⟩⟩, (Below.refl _ _).alloc (Nat.le_refl _) _⟩
  refine World.rowIs_alloc w _ 50 _ (fun i hi => ?_)
  have hi' : i < 34 := hi
  match i, hi' with
  | 0, _ => rfl
  | 1, _ => rfl
  | 2, _ => rfl
  | 3, _ => rfl
  | 4, _ => rfl
  | 5, _ => rfl
  | 6, _ => rfl
  | 7, _ => rfl
  | 8, _ => rfl
  | 9, _ => rfl
  | 10, _ => rfl
  | 11, _ => rfl
  | 12, _ => rfl
  | 13, _ => rfl
  | 14, _ => rfl
  | 15, _ => rfl
  | 16, _ => rfl
  | 17, _ => rfl
  | 18, _ => rfl
  | 19, _ => rfl
  | 20, _ => rfl
  | 21, _ => rfl
  | 22, _ => rfl
  | 23, _ => rfl
  | 24, _ => rfl
  | 25, _ => rfl
  | 26, _ => rfl
  | 27, _ => rfl
  | 28, _ => rfl
  | 29, _ => rfl
  | 30, _ => rfl
  | 31, _ => rfl
  | 32, _ => rfl
  | 33, _ => rfl
  | n + 34, h => exact absurd h (by omega)
end Go.Proofs.Qxb6605411a
