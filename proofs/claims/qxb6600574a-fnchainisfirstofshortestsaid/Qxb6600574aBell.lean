/-
  THE PLAIN LAWS OF firstShortest: Bellman-Ford over the links; the earliest link that goes one step nearer.
-/
import Derived.Test.Qxb6600574aGraph
import Derived.Test.Qxb6600574aAbv
namespace Go.Proofs.Qxb6600574a

theorem mem_adj {F T : Nat → ByteArray} {N : Nat} {x y : ByteArray} : y ∈ adj F T N x ↔ ∃ i, i < N ∧ F i = x ∧ T i = y := by
  unfold adj
  simp only [List.mem_map, List.mem_filter, List.mem_range, decide_eq_true_eq]
  constructor
  · rintro ⟨i, ⟨h1, h2⟩, h3⟩; exact ⟨i, h1, h2, h3⟩
  · rintro ⟨i, h1, h2, h3⟩; exact ⟨i, ⟨h1, h2⟩, h3⟩

/-- The earliest link. -/
theorem pick_link {F T : Nat → ByteArray} {N d i : Nat} {up x : ByteArray} {δ : Nat → ByteArray → Bool} (hδ : IsDst (adj F T N) up δ) (hi : i < N) (hF : F i = x) (hT : Dst (adj F T N) up d (T i))
    (hno : ∀ i', i' < i → ¬ (F i' = x ∧ Dst (adj F T N) up d (T i'))) : pick (adj F T N) δ d x = some (T i) := by
  have key : (List.range N).find? (fun j => decide (F j = x) && δ d (T j)) = some i := by
    rw [List.find?_range_eq_some]
    refine ⟨by simp [hF, (hδ _ _).2 hT], by simpa using hi, fun j hj => ?_⟩
    have := hno j hj
    by_cases e : F j = x
    · have h2 : ¬ δ d (T j) = true := fun h => this ⟨e, (hδ _ _).1 h⟩
      simp [h2]
    · simp [e]
  have : pick (adj F T N) δ d x = (((List.range N).filter fun j => decide (F j = x)).map T).find? (δ d) := rfl
  rw [this, List.find?_map, List.find?_filter]
  have e2 : (fun a => decide (decide (F a = x) = true ∧ (δ d ∘ T) a = true)) = (fun j => decide (F j = x) && δ d (T j)) := by
    funext a
    by_cases h1 : F a = x
    · cases h2 : δ d (T a) <;> simp [h1, h2]
    · simp [h1]
  rw [e2, key]
  rfl

theorem gr_link {F T : Nat → ByteArray} {N d i : Nat} {x : ByteArray} {δ : Nat → ByteArray → Bool} (h : pick (adj F T N) δ d x = some (T i)) : gr (adj F T N) δ (d + 1) x = T i :: gr (adj F T N) δ d (T i) := by
  show (match pick (adj F T N) δ d x with | some y => y :: gr (adj F T N) δ d y | none => []) = _
  rw [h]

/-- THE NUMBERS OF THE NAMES: n of them, nm their names; fi, ti the numbers of the links' ends. -/
structure Num (F T : Nat → ByteArray) (N n : Nat) (nm : Nat → ByteArray) (fi ti : Nat → Nat) (up : ByteArray) (ui : Nat) : Prop where
  inj : ∀ i j, i < n → j < n → nm i = nm j → i = j
  f : ∀ i, i < N → fi i < n ∧ nm (fi i) = F i
  t : ∀ i, i < N → ti i < n ∧ nm (ti i) = T i
  u : ui < n ∧ nm ui = up

/-- p passes have been made, and of the next one i links. -/
structure BF (F T : Nat → ByteArray) (N n : Nat) (nm : Nat → ByteArray) (fi ti : Nat → Nat) (up : ByteArray) (ui : Nat) (dist : Nat → Int) (p i : Nat) (ch : Bool) : Prop where
  sound : ∀ j k : Nat, j < n → dist j = k → Wk (adj F T N) up k (nm j)
  low : ∀ j, j < n → -1 ≤ dist j
  hi : ∀ j, j < n → dist j ≤ (p * 4096 + i : Nat)
  up0 : dist ui = 0
  good : ∀ j k : Nat, j < n → k ≤ p → Wk (adj F T N) up k (nm j) → 0 ≤ dist j ∧ dist j ≤ k
  cur : ∀ i' k : Nat, i' < i → k ≤ p → Wk (adj F T N) up k (T i') → 0 ≤ dist (fi i') ∧ dist (fi i') ≤ k + 1
  still : ch = false → ∀ i', i' < i → 0 ≤ dist (ti i') → 0 ≤ dist (fi i') ∧ dist (fi i') ≤ dist (ti i') + 1
  few : ch = true → p < n

/-- The distances are right. -/
structure Exact (F T : Nat → ByteArray) (N n : Nat) (nm : Nat → ByteArray) (up : ByteArray) (dist : Nat → Int) : Prop where
  sound : ∀ j k : Nat, j < n → dist j = k → Wk (adj F T N) up k (nm j)
  least : ∀ j k : Nat, j < n → Wk (adj F T N) up k (nm j) → 0 ≤ dist j ∧ dist j ≤ k

section
variable {F T : Nat → ByteArray} {N n : Nat} {nm : Nat → ByteArray} {fi ti : Nat → Nat} {up : ByteArray} {ui : Nat} {dist : Nat → Int} {p i : Nat} {ch : Bool}

theorem Exact.dst (h : Exact F T N n nm up dist) {j d : Nat} (hj : j < n) (hd : dist j = d) : Dst (adj F T N) up d (nm j) :=
  ⟨h.sound j d hj hd, fun k hk hw => by have := (h.least j k hj hw).2; omega⟩

theorem Exact.of_dst (h : Exact F T N n nm up dist) {j d : Nat} (hj : j < n) (hd : Dst (adj F T N) up d (nm j)) : dist j = d := by
  obtain ⟨h1, h2⟩ := h.least j d hj hd.1
  obtain ⟨k, hk⟩ : ∃ k : Nat, dist j = k := ⟨(dist j).toNat, by omega⟩
  have := h.dst hj hk
  rw [hk, this.unique hd]

theorem Exact.none (h : Exact F T N n nm up dist) {j : Nat} (hj : j < n) (hd : dist j < 0) : ∀ k, ¬ Wk (adj F T N) up k (nm j) := fun k hw => by
  have := (h.least j k hj hw).1
  omega

theorem adj_T {F T : Nat → ByteArray} {N : Nat} : ∀ x y, y ∈ adj F T N x → ∃ i, i < N ∧ T i = y := fun x y h => by
  obtain ⟨i, h1, _, h3⟩ := mem_adj.1 h
  exact ⟨i, h1, h3⟩

/-- As many passes as there are names: all is right. -/
theorem BF.exact (h : BF F T N n nm fi ti up ui dist p i ch) (hn : Num F T N n nm fi ti up ui) (hp : n ≤ p) : Exact F T N n nm up dist := by
  refine ⟨h.sound, fun j k hj hw => ?_⟩
  obtain ⟨d, hd, hdst⟩ := hw.least
  have hlt := Dst.lt (n := n) (nm := nm) adj_T (fun i hi => ⟨ti i, hn.t i hi⟩) hj hdst
  have := h.good j d hj (by omega) hdst.1
  omega

/-- A pass without a change: all is right. -/
theorem BF.settled (h : BF F T N n nm fi ti up ui dist p N false) (hn : Num F T N n nm fi ti up ui) : Exact F T N n nm up dist := by
  refine ⟨h.sound, fun j k => ?_⟩
  induction k generalizing j with
  | zero =>
    intro hj hw
    have : j = ui := hn.inj j ui hj hn.u.1 (hw.trans hn.u.2.symm)
    subst this
    rw [h.up0]
    exact ⟨Int.le_refl _, Int.le_refl _⟩
  | succ k ih =>
    intro hj hw
    obtain ⟨y, hy, hw⟩ := hw
    obtain ⟨i', h1, h2, h3⟩ := mem_adj.1 hy
    obtain ⟨f1, f2⟩ := hn.f i' h1
    obtain ⟨t1, t2⟩ := hn.t i' h1
    have : fi i' = j := hn.inj _ _ f1 hj (f2.trans h2)
    subst this
    rw [← h3, ← t2] at hw
    obtain ⟨a1, a2⟩ := ih (ti i') t1 hw
    obtain ⟨b1, b2⟩ := h.still rfl i' h1 a1
    exact ⟨b1, by omega⟩

theorem BF.start (hn : Num F T N n nm fi ti up ui) : BF F T N n nm fi ti up ui (fun j => if j = ui then 0 else -1) 0 0 false := by
  refine ⟨fun j k hj hd => ?_, fun j hj => ?_, fun j hj => ?_, if_pos rfl, fun j k hj hk hw => ?_, fun i' k hi => by omega, fun _ i' hi => by omega, fun h => by cases h⟩
  · by_cases e : j = ui
    · subst e
      rw [if_pos rfl] at hd
      have : k = 0 := by omega
      subst this
      exact hn.u.2
    · rw [if_neg e] at hd
      omega
  · show -1 ≤ if j = ui then (0 : Int) else -1
    split <;> omega
  · show (if j = ui then (0 : Int) else -1) ≤ _
    split <;> omega
  · have hk0 : k = 0 := by omega
    subst hk0
    have : j = ui := hn.inj j ui hj hn.u.1 (hw.trans hn.u.2.symm)
    show 0 ≤ (if j = ui then (0 : Int) else -1) ∧ (if j = ui then (0 : Int) else -1) ≤ _
    rw [if_pos this]
    omega

theorem BF.skip (h : BF F T N n nm fi ti up ui dist p i ch) (hn : Num F T N n nm fi ti up ui) (hi : i < N) (hd : dist (ti i) < 0) : BF F T N n nm fi ti up ui dist p (i + 1) ch := by
  refine ⟨h.sound, h.low, fun j hj => by have := h.hi j hj; omega, h.up0, h.good, fun i' k hi' hk hw => ?_, fun hc i' hi' h0 => ?_, h.few⟩
  · by_cases e : i' = i
    · subst e
      obtain ⟨t1, t2⟩ := hn.t i' hi
      rw [← t2] at hw
      have := (h.good _ k t1 hk hw).1
      omega
    · exact h.cur i' k (by omega) hk hw
  · by_cases e : i' = i
    · subst e; omega
    · exact h.still hc i' (by omega) h0

theorem BF.keep (h : BF F T N n nm fi ti up ui dist p i ch) (hn : Num F T N n nm fi ti up ui) (hi : i < N) (h0 : 0 ≤ dist (ti i)) (h1 : 0 ≤ dist (fi i)) (h2 : dist (fi i) ≤ dist (ti i) + 1) : BF F T N n nm fi ti up ui dist p (i + 1) ch := by
  refine ⟨h.sound, h.low, fun j hj => by have := h.hi j hj; omega, h.up0, h.good, fun i' k hi' hk hw => ?_, fun hc i' hi' h0 => ?_, h.few⟩
  · by_cases e : i' = i
    · subst e
      obtain ⟨t1, t2⟩ := hn.t i' hi
      rw [← t2] at hw
      have := (h.good _ k t1 hk hw).2
      exact ⟨h1, by omega⟩
    · exact h.cur i' k (by omega) hk hw
  · by_cases e : i' = i
    · subst e; exact ⟨h1, h2⟩
    · exact h.still hc i' (by omega) h0

theorem BF.set (h : BF F T N n nm fi ti up ui dist p i ch) (hn : Num F T N n nm fi ti up ui) (hi : i < N) (h0 : 0 ≤ dist (ti i)) (h1 : dist (fi i) < 0 ∨ dist (ti i) + 1 < dist (fi i)) :
    BF F T N n nm fi ti up ui (fun j => if j = fi i then dist (ti i) + 1 else dist j) p (i + 1) true := by
  obtain ⟨f1, f2⟩ := hn.f i hi
  obtain ⟨t1, t2⟩ := hn.t i hi
  obtain ⟨d, hd⟩ : ∃ d : Nat, dist (ti i) = d := ⟨(dist (ti i)).toNat, by omega⟩
  have hwk : Wk (adj F T N) up (d + 1) (nm (fi i)) := by
    refine ⟨T i, mem_adj.2 ⟨i, hi, f2.symm, rfl⟩, ?_⟩
    rw [← t2]
    exact h.sound _ d t1 hd
  refine ⟨fun j k hj hk => ?_, fun j hj => ?_, fun j hj => ?_, ?_, fun j k hj hk hw => ?_, fun i' k hi' hk hw => ?_, fun hc => (by cases hc), fun _ => ?_⟩
  · by_cases e : j = fi i
    · subst e
      simp only [if_true] at hk
      have : k = d + 1 := by omega
      subst this
      exact hwk
    · simp only [e, if_false] at hk
      exact h.sound j k hj hk
  · by_cases e : j = fi i
    · simp only [e, if_true]; omega
    · simp only [e, if_false]; exact h.low j hj
  · by_cases e : j = fi i
    · simp only [e, if_true]
      have := h.hi _ t1
      omega
    · simp only [e, if_false]
      have := h.hi j hj
      omega
  · by_cases e : ui = fi i
    · rw [← e, h.up0] at h1
      omega
    · simp only [e, if_false]; exact h.up0
  · have hg := h.good j k hj hk hw
    by_cases e : j = fi i
    · subst e
      simp only [if_true]
      omega
    · simp only [e, if_false]; exact hg
  · by_cases e : i' = i
    · subst e
      rw [← t2] at hw
      have := (h.good _ k t1 hk hw).2
      simp only [if_true]
      omega
    · have hg := h.cur i' k (by omega) hk hw
      by_cases e : fi i' = fi i
      · simp only [e, if_true]
        rw [e] at hg
        omega
      · simp only [e, if_false]; exact hg
  · by_cases hp : p < n
    · exact hp
    · have hex := h.exact hn (by omega)
      have := hex.least _ _ f1 hwk
      omega

theorem BF.next (h : BF F T N n nm fi ti up ui dist p N true) (hn : Num F T N n nm fi ti up ui) (hN : N ≤ 4096) : BF F T N n nm fi ti up ui dist (p + 1) 0 false := by
  have key : p * 4096 + N ≤ (p + 1) * 4096 + 0 := by omega
  refine ⟨h.sound, h.low, fun j hj => Int.le_trans (h.hi j hj) (Int.ofNat_le.2 key), h.up0, fun j k hj hk hw => ?_, fun i' k hi => by omega, fun _ i' hi => by omega, fun h => by cases h⟩
  cases k with
  | zero => exact h.good j 0 hj (by omega) hw
  | succ k =>
    obtain ⟨y, hy, hw⟩ := hw
    obtain ⟨i', h1, h2, h3⟩ := mem_adj.1 hy
    obtain ⟨f1, f2⟩ := hn.f i' h1
    have : fi i' = j := hn.inj _ _ f1 hj (f2.trans h2)
    subst this
    rw [← h3] at hw
    have := h.cur i' k h1 (by omega) hw
    omega
end
end Go.Proofs.Qxb6600574a
