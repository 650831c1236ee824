/-
  THE PLAIN LAWS: walks, distances, the greedy shortest chain; breadth-first search; Bellman-Ford. No Go in sight.
-/
import Derived.ProofKit
namespace Go.Proofs.Qxb6600574a

theorem pigeon : ∀ (B n : Nat) (h : Nat → Nat), (∀ i, i < n → h i < B) → (∀ i j, i < n → j < n → h i = h j → i = j) → n ≤ B := by
  intro B
  induction B with
  | zero =>
    intro n h h1 _
    cases n with
    | zero => exact Nat.le_refl _
    | succ n => exact absurd (h1 0 (by omega)) (by omega)
  | succ B ih =>
    intro n h h1 h2
    cases n with
    | zero => omega
    | succ n =>
      have := ih n (fun i => if h i = B then h n else h i) (fun i hi => by
        have e1 := h1 i (by omega)
        have e2 := h1 n (by omega)
        show (if h i = B then h n else h i) < B
        by_cases e : h i = B
        · rw [if_pos e]
          have : h n ≠ B := fun e' => by
            have := h2 i n (by omega) (by omega) (by omega)
            omega
          omega
        · rw [if_neg e]; omega) (fun i j hi hj e => by
        have hin : h i ≠ h n := fun e' => by have := h2 i n (by omega) (by omega) e'; omega
        have hjn : h j ≠ h n := fun e' => by have := h2 j n (by omega) (by omega) e'; omega
        have e : (if h i = B then h n else h i) = (if h j = B then h n else h j) := e
        by_cases e1 : h i = B
        · by_cases e2 : h j = B
          · exact h2 i j (by omega) (by omega) (by omega)
          · rw [if_pos e1, if_neg e2] at e
            exact absurd e.symm hjn
        · by_cases e2 : h j = B
          · rw [if_neg e1, if_pos e2] at e
            exact absurd e hin
          · rw [if_neg e1, if_neg e2] at e
            exact h2 i j (by omega) (by omega) e)
      omega

section
variable (G : ByteArray → List ByteArray) (up : ByteArray)

/-- There is a walk of k links from x to up. -/
def Wk : Nat → ByteArray → Prop
  | 0, x => x = up
  | k + 1, x => ∃ y, y ∈ G x ∧ Wk k y

/-- k is the distance of x to up. -/
def Dst (k : Nat) (x : ByteArray) : Prop := Wk G up k x ∧ ∀ j, j < k → ¬ Wk G up j x

/-- A table of the distances. -/
def IsDst (δ : Nat → ByteArray → Bool) : Prop := ∀ k x, δ k x = true ↔ Dst G up k x

theorem isDst_is : ∃ δ, IsDst G up δ :=
  ⟨fun k x => @decide (Dst G up k x) (Classical.propDecidable _), fun k x => @decide_eq_true_iff (Dst G up k x) (Classical.propDecidable _)⟩

/-- The first name above x that has the distance k. -/
def pick (δ : Nat → ByteArray → Bool) (k : Nat) (x : ByteArray) : Option ByteArray := (G x).find? (δ k)

/-- The greedy chain behind x. -/
def gr (δ : Nat → ByteArray → Bool) : Nat → ByteArray → List ByteArray
  | 0, _ => []
  | k + 1, x => match pick G δ k x with
    | some y => y :: gr δ k y
    | none => []
end

variable {G : ByteArray → List ByteArray} {up : ByteArray}

theorem Dst.unique {k j : Nat} {x : ByteArray} (h1 : Dst G up k x) (h2 : Dst G up j x) : k = j := by
  rcases Nat.lt_trichotomy k j with h | h | h
  · exact absurd h1.1 (h2.2 k h)
  · exact h
  · exact absurd h2.1 (h1.2 j h)

theorem Wk.least {x : ByteArray} : ∀ {k : Nat}, Wk G up k x → ∃ d, d ≤ k ∧ Dst G up d x := by
  intro k
  induction k using Nat.strongRecOn with
  | _ k ih =>
    intro h
    by_cases hs : ∃ j, j < k ∧ Wk G up j x
    · obtain ⟨j, hj, hw⟩ := hs
      obtain ⟨d, hd, hd'⟩ := ih j hj hw
      exact ⟨d, by omega, hd'⟩
    · exact ⟨k, Nat.le_refl _, h, fun j hj hw => hs ⟨j, hj, hw⟩⟩

/-- The first step of a shortest walk. -/
theorem Dst.first {k : Nat} {x : ByteArray} (h : Dst G up (k + 1) x) : ∃ y, y ∈ G x ∧ Dst G up k y := by
  obtain ⟨⟨y, hy, hw⟩, hm⟩ := h
  exact ⟨y, hy, hw, fun j hj hj' => hm (j + 1) (by omega) ⟨y, hy, hj'⟩⟩

/-! ### Breadth-first search -/
structure Nd where
  s : ByteArray
  par : Nat
  pos : Nat
  lev : Nat

/-- n names have been met, g 0 the first; those below p have been worked off; of the names above g p the first q have been looked at. -/
structure Bfs (G : ByteArray → List ByteArray) (up lo : ByteArray) (g : Nat → Nd) (n p q : Nat) : Prop where
  pos : 0 < n
  root : (g 0).s = lo ∧ (g 0).lev = 0
  inj : ∀ i j, i < n → j < n → (g i).s = (g j).s → i = j
  tree : ∀ j, 0 < j → j < n → (g j).par < j ∧ (g j).par ≤ p ∧ (G (g (g j).par).s)[(g j).pos]? = some (g j).s ∧ (g j).lev = (g (g j).par).lev + 1
  mono : ∀ i j, 0 < i → i ≤ j → j < n → (g i).par ≤ (g j).par
  done : ∀ i, i < p → ∀ x, x ∈ G (g i).s → ∃ j, j < n ∧ (g j).s = x ∧ (j = 0 ∨ (g j).par ≤ i)
  part : ∀ e x, e < q → (G (g p).s)[e]? = some x → ∃ j, j < n ∧ (g j).s = x
  before : ∀ k, 0 < k → k < n → ∀ e x, e < (g k).pos → (G (g (g k).par).s)[e]? = some x → ∃ j, j < k ∧ (g j).s = x
  far : ∀ i, i < p → (g i).s ≠ up
  le : p ≤ n

theorem bfs_start (G : ByteArray → List ByteArray) (up lo : ByteArray) : Bfs G up lo (fun _ => ⟨lo, 0, 0, 0⟩) 1 0 0 :=
  ⟨by omega, ⟨rfl, rfl⟩, fun i j hi hj _ => by omega, fun j h1 h2 => by omega, fun i j h1 h2 h3 => by omega, fun i hi => by omega, fun e x he => by omega, fun k h1 h2 => by omega, fun i hi => by omega, by omega⟩

section
variable {lo : ByteArray} {g : Nat → Nd} {n p q : Nat}

/-- All names above g p have been looked at. -/
theorem Bfs.next (h : Bfs G up lo g n p q) (hp : p < n) (hq : (G (g p).s).length ≤ q) (hne : (g p).s ≠ up) : Bfs G up lo g n (p + 1) 0 := by
  refine ⟨h.pos, h.root, h.inj, fun j h1 h2 => ?_, h.mono, fun i hi x hx => ?_, fun e x he => by omega, h.before, fun i hi => ?_, by omega⟩
  · obtain ⟨t1, t2, t3⟩ := h.tree j h1 h2
    exact ⟨t1, by omega, t3⟩
  · by_cases e : i = p
    · subst e
      obtain ⟨k, hk⟩ := List.getElem?_of_mem hx
      have hlt : k < (G (g i).s).length := (List.getElem?_eq_some_iff.1 hk).1
      obtain ⟨j, hj, hjs⟩ := h.part k x (by omega) hk
      refine ⟨j, hj, hjs, ?_⟩
      by_cases e0 : j = 0
      · exact .inl e0
      · exact .inr (h.tree j (by omega) hj).2.1
    · exact h.done i (by omega) x hx
  · by_cases e : i = p
    · subst e; exact hne
    · exact h.far i (by omega)

/-- The q-th name above g p has been met before. -/
theorem Bfs.seen (h : Bfs G up lo g n p q) {x : ByteArray} (hx : (G (g p).s)[q]? = some x) {j : Nat} (hj : j < n) (hjx : (g j).s = x) : Bfs G up lo g n p (q + 1) := by
  refine ⟨h.pos, h.root, h.inj, h.tree, h.mono, h.done, fun e y he hy => ?_, h.before, h.far, h.le⟩
  by_cases e1 : e = q
  · subst e1
    rw [hx] at hy
    cases hy
    exact ⟨j, hj, hjx⟩
  · exact h.part e y (by omega) hy

/-- .. it is new. -/
theorem Bfs.new (h : Bfs G up lo g n p q) (hp : p < n) {x : ByteArray} (hx : (G (g p).s)[q]? = some x) (hnew : ∀ j, j < n → (g j).s ≠ x)
    {g' : Nat → Nd} (hg : ∀ i, i < n → g' i = g i) (hgn : g' n = ⟨x, p, q, (g p).lev + 1⟩) : Bfs G up lo g' (n + 1) p (q + 1) := by
  have hpos := h.pos
  refine ⟨by omega, ?_, fun i j hi hj e => ?_, fun j h1 h2 => ?_, fun i j h1 h2 h3 => ?_, fun i hi y hy => ?_, fun e y he hy => ?_, fun k h1 h2 e y he hy => ?_, fun i hi => ?_, by omega⟩
  · rw [hg 0 hpos]
    exact h.root
  · by_cases e1 : i = n
    · by_cases e2 : j = n
      · omega
      · subst e1
        rw [hgn, hg j (by omega)] at e
        exact absurd e.symm (hnew j (by omega))
    · by_cases e2 : j = n
      · subst e2
        rw [hgn, hg i (by omega)] at e
        exact absurd e (hnew i (by omega))
      · rw [hg i (by omega), hg j (by omega)] at e
        exact h.inj i j (by omega) (by omega) e
  · by_cases e1 : j = n
    · subst e1
      simp only [hgn, hg p hp]
      exact ⟨hp, Nat.le_refl _, hx, trivial⟩
    · obtain ⟨t1, t2, t3, t4⟩ := h.tree j h1 (by omega)
      simp only [hg j (by omega), hg (g j).par (by omega)]
      exact ⟨t1, t2, t3, t4⟩
  · by_cases e2 : j = n
    · subst e2
      by_cases e1 : i = j
      · subst e1; exact Nat.le_refl _
      · simp only [hgn, hg i (by omega)]
        exact (h.tree i h1 (by omega)).2.1
    · simp only [hg i (by omega), hg j (by omega)]
      exact h.mono i j h1 h2 (by omega)
  · simp only [hg i (by omega)] at hy
    obtain ⟨j, hj, hjs, hjp⟩ := h.done i hi y hy
    exact ⟨j, by omega, by simp only [hg j hj]; exact hjs, by simp only [hg j hj]; exact hjp⟩
  · simp only [hg p hp] at hy
    by_cases e1 : e = q
    · subst e1
      rw [hx] at hy
      cases hy
      exact ⟨n, by omega, by simp only [hgn]⟩
    · obtain ⟨j, hj, hjs⟩ := h.part e y (by omega) hy
      exact ⟨j, by omega, by simp only [hg j hj]; exact hjs⟩
  · by_cases e1 : k = n
    · subst e1
      simp only [hgn, hg p hp] at hy he
      obtain ⟨j, hj, hjs⟩ := h.part e y he hy
      exact ⟨j, hj, by simp only [hg j hj]; exact hjs⟩
    · have t1 := (h.tree k h1 (by omega)).1
      simp only [hg k (by omega), hg (g k).par (by omega)] at hy he
      obtain ⟨j, hj, hjs⟩ := h.before k h1 (by omega) e y he hy
      exact ⟨j, hj, by simp only [hg j (by omega)]; exact hjs⟩
  · simp only [hg i (by omega)]
    exact h.far i hi

theorem Bfs.levMono (h : Bfs G up lo g n p q) : ∀ j, j < n → ∀ i, i ≤ j → (g i).lev ≤ (g j).lev := by
  intro j
  induction j using Nat.strongRecOn with
  | _ j ih =>
    intro hj i hi
    by_cases e0 : i = 0
    · subst e0; rw [h.root.2]; exact Nat.zero_le _
    · obtain ⟨t1, _, _, t4⟩ := h.tree j (by omega) hj
      obtain ⟨s1, _, _, s4⟩ := h.tree i (by omega) (by omega)
      have := ih (g j).par t1 (by omega) (g i).par (h.mono i j (by omega) hi hj)
      omega

/-- The queue has run dry: up is out of reach. -/
theorem Bfs.dry (h : Bfs G up lo g n n 0) : ∀ k, ¬ Wk G up k lo := by
  have key : ∀ k, ∀ i, i < n → ¬ Wk G up k (g i).s := by
    intro k
    induction k with
    | zero => intro i hi hw; exact h.far i hi hw
    | succ k ih =>
      intro i hi ⟨y, hy, hw⟩
      obtain ⟨j, hj, hjs, _⟩ := h.done i hi y hy
      rw [← hjs] at hw
      exact ih j hj hw
  intro k
  have := key k 0 h.pos
  rw [h.root.1] at this
  exact this

/-- up has come up at place p. -/
theorem Bfs.short (h : Bfs G up lo g n p 0) (hp : p < n) (hup : (g p).s = up) : ∀ k, ∀ i, i < n → Wk G up k (g i).s → (g p).lev ≤ (g i).lev + k := by
  intro k
  induction k with
  | zero =>
    intro i hi hw
    have : i = p := h.inj i p hi hp (hw.trans hup.symm)
    subst this
    exact Nat.le_refl _
  | succ k ih =>
    intro i hi hw
    by_cases hip : i < p
    · obtain ⟨y, hy, hw⟩ := hw
      obtain ⟨j, hj, hjs, hjp⟩ := h.done i hip y hy
      rw [← hjs] at hw
      have h1 := ih j hj hw
      have h2 : (g j).lev ≤ (g i).lev + 1 := by
        by_cases e0 : j = 0
        · subst e0; rw [h.root.2]; exact Nat.zero_le _
        · have := (h.tree j (by omega) hj).2.2.2
          have := h.levMono i hi (g j).par (hjp.resolve_left e0)
          omega
      omega
    · have := h.levMono i hi p (by omega)
      omega

/-- On the way back from place p: place a, whose name has the distance r. -/
structure Back (G : ByteArray → List ByteArray) (up : ByteArray) (g : Nat → Nd) (p a r : Nat) : Prop where
  le : a ≤ p
  lev : (g a).lev + r = (g p).lev
  walk : Wk G up r (g a).s
  ord : ∀ j, j < a → ¬ Wk G up r (g j).s

theorem Bfs.back0 (h : Bfs G up lo g n p 0) (hup : (g p).s = up) : Back G up g p p 0 :=
  ⟨Nat.le_refl _, rfl, hup, fun j hj hw => h.far j hj hw⟩

theorem Back.dst {a r : Nat} (b : Back G up g p a r) (h : Bfs G up lo g n p 0) (hp : p < n) (hup : (g p).s = up) : Dst G up r (g a).s :=
  ⟨b.walk, fun j hj hw => by
    have := h.short hp hup j a (by have := b.le; omega) hw
    have := b.lev
    omega⟩

/-- ONE STEP BACK. -/
theorem Back.step {δ : Nat → ByteArray → Bool} (hδ : IsDst G up δ) {a r : Nat} (b : Back G up g p a r) (h : Bfs G up lo g n p 0) (hp : p < n) (hup : (g p).s = up) (ha : 0 < a) :
    Back G up g p (g a).par (r + 1) ∧ gr G δ (r + 1) (g (g a).par).s = (g a).s :: gr G δ r (g a).s := by
  have hle := b.le
  have hlev := b.lev
  obtain ⟨t1, t2, t3, t4⟩ := h.tree a ha (by omega)
  have hmem : (g a).s ∈ G (g (g a).par).s := List.mem_of_getElem? t3
  refine ⟨⟨by omega, by omega, ⟨_, hmem, b.walk⟩, fun j hj hw => ?_⟩, ?_⟩
  · obtain ⟨y, hy, hw⟩ := hw
    obtain ⟨j', hj', hjs, hjp⟩ := h.done j (by omega) y hy
    rw [← hjs] at hw
    refine b.ord j' ?_ hw
    rcases hjp with e0 | hjp
    · omega
    · by_cases hlt : j' < a
      · exact hlt
      · have := h.mono a j' ha (by omega) hj'
        omega
  · have hpick : pick G δ r (g (g a).par).s = some (g a).s := by
      unfold pick
      rw [List.find?_eq_some_iff_getElem]
      obtain ⟨hlt, hget⟩ := List.getElem?_eq_some_iff.1 t3
      refine ⟨(hδ _ _).2 (b.dst h hp hup), (g a).pos, hlt, hget, fun e he => ?_⟩
      obtain ⟨j, hj, hjs⟩ := h.before a ha (by omega) e _ he (List.getElem?_eq_getElem (by omega))
      rw [← hjs]
      have : ¬ δ r (g j).s = true := fun hd => b.ord j hj ((hδ _ _).1 hd).1
      simp [this]
    show (match pick G δ r (g (g a).par).s with | some y => y :: gr G δ r y | none => []) = _
    rw [hpick]

/-- The names met are no more than the links, and one. -/
theorem Bfs.few (h : Bfs G up lo g n p q) {N : Nat} {T : Nat → ByteArray} (hG : ∀ x y, y ∈ G x → ∃ i, i < N ∧ T i = y) : n ≤ N + 1 := by
  have hex : ∀ j, j < n → ∃ i, i < N + 1 ∧ (j = 0 → i = 0) ∧ (0 < j → 0 < i ∧ T (i - 1) = (g j).s) := by
    intro j hj
    by_cases e0 : j = 0
    · exact ⟨0, by omega, fun _ => rfl, fun h => by omega⟩
    · obtain ⟨i, hi, hT⟩ := hG _ _ (List.mem_of_getElem? (h.tree j (by omega) hj).2.2.1)
      exact ⟨i + 1, by omega, fun h => absurd h e0, fun _ => ⟨by omega, hT⟩⟩
  refine pigeon (N + 1) n (fun j => if hj : j < n then Classical.choose (hex j hj) else 0) (fun i hi => ?_) (fun i j hi hj e => ?_)
  · simp only [hi, dif_pos]
    exact (Classical.choose_spec (hex i hi)).1
  · simp only [hi, hj, dif_pos] at e
    obtain ⟨_, a1, a2⟩ := Classical.choose_spec (hex i hi)
    obtain ⟨_, b1, b2⟩ := Classical.choose_spec (hex j hj)
    by_cases i0 : i = 0
    · by_cases j0 : j = 0
      · omega
      · have := (b2 (by omega)).1
        have := a1 i0
        omega
    · by_cases j0 : j = 0
      · have := (a2 (by omega)).1
        have := b1 j0
        omega
      · refine h.inj i j hi hj ?_
        rw [← (a2 (by omega)).2, ← (b2 (by omega)).2, e]
end

/-! ### Bellman-Ford -/

theorem Dst.names {N n : Nat} {T : Nat → ByteArray} {nm : Nat → ByteArray} (hG : ∀ x y, y ∈ G x → ∃ i, i < N ∧ T i = y) (hT : ∀ i, i < N → ∃ j, j < n ∧ nm j = T i) :
    ∀ k j, j < n → Dst G up k (nm j) → ∀ t, t ≤ k → ∃ j', j' < n ∧ Dst G up t (nm j') := by
  intro k
  induction k with
  | zero =>
    intro j hj hd t ht
    obtain rfl : t = 0 := by omega
    exact ⟨j, hj, hd⟩
  | succ k ih =>
    intro j hj hd t ht
    by_cases e : t = k + 1
    · subst e; exact ⟨j, hj, hd⟩
    · obtain ⟨y, hy, hd'⟩ := hd.first
      obtain ⟨i, hi, hTi⟩ := hG _ _ hy
      obtain ⟨j', hj', hn⟩ := hT i hi
      rw [← hTi, ← hn] at hd'
      exact ih j' hj' hd' t (by omega)

/-- A distance is less than the number of names. -/
theorem Dst.lt {N n : Nat} {T : Nat → ByteArray} {nm : Nat → ByteArray} (hG : ∀ x y, y ∈ G x → ∃ i, i < N ∧ T i = y) (hT : ∀ i, i < N → ∃ j, j < n ∧ nm j = T i)
    {k j : Nat} (hj : j < n) (hd : Dst G up k (nm j)) : k < n := by
  have hex := Dst.names hG hT k j hj hd
  refine pigeon n (k + 1) (fun t => if ht : t ≤ k then Classical.choose (hex t ht) else 0) (fun t ht => ?_) (fun t u ht hu e => ?_)
  · have ht' : t ≤ k := by omega
    simp only [ht', dif_pos]
    exact (Classical.choose_spec (hex t ht')).1
  · have ht' : t ≤ k := by omega
    have hu' : u ≤ k := by omega
    simp only [ht', hu', dif_pos] at e
    have a := (Classical.choose_spec (hex t ht')).2
    have b := (Classical.choose_spec (hex u hu')).2
    rw [e] at a
    exact a.unique b
end Go.Proofs.Qxb6600574a
