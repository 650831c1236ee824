/-
  THE PLAIN LAWS OF THIS SEAT: no Go in sight.
-/
import Derived.Lib.Bytealg
namespace Go.Proofs.Qxb6605349a

/-- Go's 'lower' on a byte's number. -/
def lowI (c : Int) : Int := if 65 ≤ c ∧ c ≤ 90 then c + 32 else c

/-- The order of two lists by a key, place by place; the shorter is the lesser. -/
def gc (f : UInt8 → Int) : List UInt8 → List UInt8 → Int
  | [], [] => 0
  | [], _ :: _ => -1
  | _ :: _, [] => 1
  | a :: as, b :: bs => if f a < f b then -1 else if f b < f a then 1 else gc f as bs

def key (c : UInt8) : Int := (c.toNat : Int)
def keyL (c : UInt8) : Int := lowI (c.toNat : Int)

theorem gc_key : ∀ a b : List UInt8, Lib.compareBytes a b = gc key a b
  | [], [] => rfl
  | [], _ :: _ => rfl
  | _ :: _, [] => rfl
  | a :: as, b :: bs => by
    have h1 : (a < b) ↔ key a < key b := by unfold key; rw [UInt8.lt_iff_toNat_lt]; omega
    have h2 : (b < a) ↔ key b < key a := by unfold key; rw [UInt8.lt_iff_toNat_lt]; omega
    simp only [Lib.compareBytes, gc, h1, h2, gc_key as bs]

theorem gc_sign (f : UInt8 → Int) : ∀ a b : List UInt8, gc f a b = -1 ∨ gc f a b = 0 ∨ gc f a b = 1
  | [], [] => by simp [gc]
  | [], _ :: _ => by simp [gc]
  | _ :: _, [] => by simp [gc]
  | a :: as, b :: bs => by
    have ih := gc_sign f as bs
    simp only [gc]
    split
    · simp
    · split
      · simp
      · exact ih

theorem gc_anti (f : UInt8 → Int) : ∀ a b : List UInt8, gc f a b = - gc f b a
  | [], [] => by simp [gc]
  | [], _ :: _ => by simp [gc]
  | _ :: _, [] => by simp [gc]
  | a :: as, b :: bs => by
    have ih := gc_anti f as bs
    simp only [gc]
    by_cases h1 : f a < f b
    · have h2 : ¬ f b < f a := by omega
      simp [h1, h2]
    · by_cases h2 : f b < f a
      · simp [h1, h2]
      · simp [h1, h2, ih]

theorem gc_zero (f : UInt8 → Int) : ∀ a b : List UInt8, gc f a b = 0 ↔ a.map f = b.map f
  | [], [] => by simp [gc]
  | [], _ :: _ => by simp [gc]
  | _ :: _, [] => by simp [gc]
  | a :: as, b :: bs => by
    have ih := gc_zero f as bs
    simp only [gc, List.map_cons, List.cons.injEq]
    by_cases h1 : f a < f b
    · have : f a ≠ f b := by omega
      simp [h1, this]
    · by_cases h2 : f b < f a
      · have : f a ≠ f b := by omega
        simp [h1, h2, this]
      · have : f a = f b := by omega
        simp [this, ih]

/-- It hangs on the keys alone. -/
theorem gc_congr (f : UInt8 → Int) : ∀ a b a' b' : List UInt8, a.map f = a'.map f → b.map f = b'.map f → gc f a b = gc f a' b'
  | [], [], a', b', h1, h2 => by
    have e1 : a' = [] := by simpa using h1.symm
    have e2 : b' = [] := by simpa using h2.symm
    subst e1 e2; rfl
  | [], y :: ys, a', b', h1, h2 => by
    have e1 : a' = [] := by simpa using h1.symm
    subst e1
    cases b' with
    | nil => simp at h2
    | cons z zs => rfl
  | x :: xs, [], a', b', h1, h2 => by
    have e2 : b' = [] := by simpa using h2.symm
    subst e2
    cases a' with
    | nil => simp at h1
    | cons z zs => rfl
  | x :: xs, y :: ys, a', b', h1, h2 => by
    cases a' with
    | nil => simp at h1
    | cons x' xs' =>
      cases b' with
      | nil => simp at h2
      | cons y' ys' =>
        simp only [List.map_cons, List.cons.injEq] at h1 h2
        simp only [gc, h1.1, h2.1, gc_congr f xs ys xs' ys' h1.2 h2.2]

theorem gc_trans (f : UInt8 → Int) : ∀ a b c : List UInt8, gc f a b ≤ 0 → gc f b c ≤ 0 → gc f a c ≤ 0 ∧ (gc f a c = 0 → gc f a b = 0 ∧ gc f b c = 0)
  | [], [], [] => by simp [gc]
  | [], [], _ :: _ => by simp [gc]
  | [], _ :: _, [] => by simp [gc]
  | [], _ :: _, _ :: _ => by simp [gc]
  | _ :: _, [], [] => by simp [gc]
  | _ :: _, [], _ :: _ => by simp [gc]
  | _ :: _, _ :: _, [] => by simp [gc]
  | a :: as, b :: bs, c :: cs => by
    have ih := gc_trans f as bs cs
    simp only [gc]
    by_cases h1 : f a < f b
    · by_cases h2 : f b < f c
      · have h3 : f a < f c := by omega
        simp [h3]
      · by_cases h4 : f c < f b
        · simp [h1, h2, h4]
        · have h3 : f a < f c := by omega
          simp [h3]
    · by_cases h5 : f b < f a
      · simp [h1, h5]
      · have e : f a = f b := by omega
        simp only [e, Int.lt_irrefl, if_false]
        by_cases h2 : f b < f c
        · simp [h2]
        · by_cases h4 : f c < f b
          · simp [h2, h4]
          · simp only [h2, h4, if_false]
            exact ih

/-- CompareTitles. -/
def ct (a b : List UInt8) : Int := if gc keyL a b = 0 then gc key a b else gc keyL a b

theorem key_inj (a b : List UInt8) : a.map key = b.map key ↔ a = b := by
  constructor
  · intro h
    induction a generalizing b with
    | nil => simpa using h.symm
    | cons x xs ih =>
      cases b with
      | nil => simp at h
      | cons y ys =>
        simp only [List.map_cons, List.cons.injEq] at h
        have e : x = y := by
          apply UInt8.toNat_inj.1
          have := h.1
          unfold key at this
          omega
        rw [e, ih ys h.2]
  · intro h; rw [h]

theorem ct_sign (a b : List UInt8) : ct a b = -1 ∨ ct a b = 0 ∨ ct a b = 1 := by
  unfold ct
  split
  · exact gc_sign key a b
  · exact gc_sign keyL a b

theorem ct_anti (a b : List UInt8) : ct a b = - ct b a := by
  unfold ct
  have h1 := gc_anti keyL a b
  have h2 := gc_anti key a b
  by_cases h : gc keyL a b = 0
  · have h' : gc keyL b a = 0 := by omega
    simp [h, h', h2]
  · have h' : ¬ gc keyL b a = 0 := by omega
    simp [h', h1]

theorem ct_zero (a b : List UInt8) : ct a b = 0 ↔ a = b := by
  unfold ct
  rw [← key_inj, ← gc_zero key]
  by_cases h : gc keyL a b = 0
  · simp [h]
  · simp only [h, if_false, false_iff]
    intro h2
    rw [gc_zero, key_inj] at h2
    subst h2
    exact h ((gc_zero _ _ _).2 rfl)

theorem ct_trans (a b c : List UInt8) (h1 : ct a b ≤ 0) (h2 : ct b c ≤ 0) : ct a c ≤ 0 := by
  unfold ct at *
  by_cases e1 : gc keyL a b = 0
  · have m1 := (gc_zero _ _ _).1 e1
    have e3 : gc keyL a c = gc keyL b c := gc_congr _ _ _ _ _ m1 rfl
    rw [if_pos e1] at h1
    rw [e3]
    by_cases e2 : gc keyL b c = 0
    · rw [if_pos e2] at h2 ⊢
      exact (gc_trans key a b c h1 h2).1
    · rw [if_neg e2] at h2 ⊢
      exact h2
  · rw [if_neg e1] at h1
    by_cases e2 : gc keyL b c = 0
    · have m2 := (gc_zero _ _ _).1 e2
      have e3 : gc keyL a c = gc keyL a b := gc_congr _ _ _ _ _ rfl m2.symm
      rw [e3, if_neg e1]
      exact h1
    · rw [if_neg e2] at h2
      have t := gc_trans keyL a b c h1 h2
      have : ¬ gc keyL a c = 0 := fun h => e1 (t.2 h).1
      rw [if_neg this]
      exact t.1

theorem ct_trans' (a b c : List UInt8) (h1 : 0 ≤ ct a b) (h2 : 0 ≤ ct b c) : 0 ≤ ct a c := by
  have a1 := ct_anti a b
  have a2 := ct_anti b c
  have a3 := ct_anti a c
  have := ct_trans c b a (by omega) (by omega)
  omega

/-! ### the fold -/
def lowB (c : UInt8) : UInt8 := if 65 ≤ c ∧ c ≤ 90 then c + 32 else c
def fold (s : List UInt8) : List UInt8 := s.map lowB

theorem lowB_toNat (c : UInt8) : ((lowB c).toNat : Int) = lowI (c.toNat : Int) := by
  unfold lowB lowI
  have e1 : (65 ≤ c) ↔ (65 : Int) ≤ (c.toNat : Int) := by rw [UInt8.le_iff_toNat_le]; simp; omega
  have e2 : (c ≤ 90) ↔ (c.toNat : Int) ≤ 90 := by rw [UInt8.le_iff_toNat_le]; simp; omega
  by_cases h : (65 : Int) ≤ (c.toNat : Int) ∧ (c.toNat : Int) ≤ 90
  · rw [if_pos h, if_pos ⟨e1.2 h.1, e2.2 h.2⟩, UInt8.toNat_add]
    have : (32 : UInt8).toNat = 32 := rfl
    rw [this]
    omega
  · rw [if_neg h, if_neg (fun h' => h ⟨e1.1 h'.1, e2.1 h'.2⟩)]

theorem lowI_idem (c : Int) : lowI (lowI c) = lowI c := by
  unfold lowI
  by_cases h : 65 ≤ c ∧ c ≤ 90
  · rw [if_pos h, if_neg (by omega)]
  · rw [if_neg h, if_neg h]

theorem toNatI_inj {a b : UInt8} (h : (a.toNat : Int) = (b.toNat : Int)) : a = b := UInt8.toNat_inj.1 (by omega)

theorem lowB_idem (c : UInt8) : lowB (lowB c) = lowB c := by
  apply toNatI_inj
  rw [lowB_toNat, lowB_toNat, lowI_idem]

theorem fold_idem (s : List UInt8) : fold (fold s) = fold s := by
  unfold fold
  rw [List.map_map]
  apply List.map_congr_left
  intro c _
  exact lowB_idem c

theorem fold_length (s : List UInt8) : (fold s).length = s.length := by simp [fold]

/-- Is there a capital? -/
def cap (s : List UInt8) : Bool := s.any fun c => decide (65 ≤ (c.toNat : Int)) && decide ((c.toNat : Int) ≤ 90)

theorem lowI_eq (c : Int) : lowI c = c ↔ ¬ (65 ≤ c ∧ c ≤ 90) := by
  unfold lowI
  split <;> omega

theorem cap_cons (c : UInt8) (s : List UInt8) : cap (c :: s) = ((decide (65 ≤ (c.toNat : Int)) && decide ((c.toNat : Int) ≤ 90)) || cap s) := by
  simp [cap]

theorem fold_cons (c : UInt8) (s : List UInt8) : fold (c :: s) = lowB c :: fold s := rfl

theorem fold_eq_iff : ∀ s : List UInt8, fold s = s ↔ cap s = false
  | [] => by simp [fold, cap]
  | c :: s => by
    rw [fold_cons, cap_cons, List.cons.injEq, fold_eq_iff s, Bool.or_eq_false_iff]
    have : lowB c = c ↔ (decide (65 ≤ (c.toNat : Int)) && decide ((c.toNat : Int) ≤ 90)) = false := by
      constructor
      · intro h
        have := (lowI_eq (c.toNat : Int)).1 (by rw [← lowB_toNat, h])
        simp only [Bool.and_eq_false_iff, decide_eq_false_iff_not]
        omega
      · intro h
        apply toNatI_inj
        rw [lowB_toNat, lowI_eq]
        simp only [Bool.and_eq_false_iff, decide_eq_false_iff_not] at h
        omega
    rw [this]

theorem keyL_fold (s : List UInt8) : (fold s).map keyL = s.map keyL := by
  unfold fold
  rw [List.map_map]
  apply List.map_congr_left
  intro c _
  show lowI ((lowB c).toNat : Int) = lowI (c.toNat : Int)
  rw [lowB_toNat, lowI_idem]

theorem gc_key_fold : ∀ s : List UInt8, gc key s (fold s) = if cap s then -1 else 0
  | [] => by simp [fold, gc, cap]
  | c :: s => by
    have ih := gc_key_fold s
    have e : key (lowB c) = lowI (c.toNat : Int) := lowB_toNat c
    rw [fold_cons, cap_cons]
    simp only [gc, e]
    by_cases h : (65 : Int) ≤ (c.toNat : Int) ∧ (c.toNat : Int) ≤ 90
    · have e2 : lowI (c.toNat : Int) = (c.toNat : Int) + 32 := by unfold lowI; rw [if_pos h]
      rw [e2]
      have : key c < (c.toNat : Int) + 32 := by unfold key; omega
      rw [if_pos this]
      simp [h.1, h.2]
    · have e2 : lowI (c.toNat : Int) = (c.toNat : Int) := by unfold lowI; rw [if_neg h]
      rw [e2]
      have h1 : ¬ key c < (c.toNat : Int) := by unfold key; omega
      have h2 : ¬ (c.toNat : Int) < key c := by unfold key; omega
      rw [if_neg h1, if_neg h2, ih]
      have : (decide (65 ≤ (c.toNat : Int)) && decide ((c.toNat : Int) ≤ 90)) = false := by
        simp only [Bool.and_eq_false_iff, decide_eq_false_iff_not]; omega
      rw [this, Bool.false_or]

theorem ct_fold (s : List UInt8) : ct s (fold s) = if cap s then -1 else 0 := by
  unfold ct
  rw [if_pos ((gc_zero _ _ _).2 (keyL_fold s).symm), gc_key_fold]

end Go.Proofs.Qxb6605349a
