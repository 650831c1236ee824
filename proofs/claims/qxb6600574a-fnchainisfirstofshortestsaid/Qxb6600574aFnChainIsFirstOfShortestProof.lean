/-
  'Rows.FnChainIsFirstOfShortestSaid': THE ROW OVER THE WALK.
-/
import Derived.Test.Qxb6600574aRows
import Derived.WalkKit
import Derived.ProofKit
import Derived.OpenShut
import Derived.ShutString
import Derived.SliceStrings
import Derived.Deep.SlicePairs
import Derived.Test.Qxb6600574aLaw
namespace Go.Proofs.Qxb6600574a.fnChainIsFirstOfShortest
open Go.ChangeShapes Go.WideShapes Go.ChangeAt Go.RowKit
open Go.ChangeMaps (open_string shut_string)

theorem own : ownKnob Try.prog.godebug = none := by kernel_rfl
theorem laidOut : laidOutB Try.prog = true := by kernel_rfl

set_option maxRecDepth 100000 in
theorem lifted (os : Os) (started : os.Started) (H : Type) (enc : TypeId × Value → H) :
    ReturnsInHanded {} Try.checked os 3 .any (Rows.fnChainIsFirstOfShortestSpec.pre6 enc Try.prog Try.f3 Rows.fnChainIsFirstOfShortestRow.domain false) (Rows.fnChainIsFirstOfShortestSpec.post enc Try.prog Try.f3 false true false false) := by
  refine returnsInHanded_of_change (C := Try.checked) own started (by kernel_rfl) Try.func3
    (ChangeSpec.witness6 (enc := enc) (C := Try.checked) false ⟨#[], #[.slice none 0 0, .slice none 0 0, .string ByteArray.empty, .string ByteArray.empty], []⟩ 8 (by kernel_rfl) (by kernel_rfl) (by kernel_rfl) (by kernel_rfl)) ?_
  intro W base args ds gs before hval0 hW hcnd _
  have hval : ∀ (j : Nat) t v, Try.f3.params[j]? = some t → args[j]? = some v → Value.okWide Try.prog W .any base t v := hval0
  have hW' := hW
  obtain ⟨p, q, hA0, hV, rfl, hfz, hnd⟩ := hW
  have hA : DataW.TrodAll enc Try.prog W 0 (fun _ => true) true Try.f3.params.toList args.toList ds p := hA0
  rw [Try.params3] at hA hval
  obtain ⟨v0, vs0, d0, ds0, p0, q0, hargs, rfl, rfl, h0, r0⟩ := trodAll_cons hA
  obtain ⟨v1, vs1, d1, ds1, p1, q1, rfl, rfl, rfl, h1, r1⟩ := trodAll_cons r0
  obtain ⟨v2, vs2, d2, ds2, p2, q2, rfl, rfl, rfl, h2, r2⟩ := trodAll_cons r1
  obtain ⟨v3, vs3, d3, ds3, p3, q3, rfl, rfl, rfl, h3, r3⟩ := trodAll_cons r2
  obtain ⟨rfl, rfl, rfl⟩ := trodAll_nil r3
  obtain rfl : args = #[v0, v1, v2, v3] := by cases args; simp_all
  obtain ⟨rfl, rfl⟩ := trodVars_none hV
  obtain ⟨a0, len0, cap0, rfl⟩ := okWide_slice Try.underlying22 (hval 0 22 v0 rfl rfl)
  obtain ⟨a1, len1, cap1, rfl⟩ := okWide_slice Try.underlying23 (hval 1 23 v1 rfl rfl)
  obtain ⟨lo, rfl, rfl, rfl, w2⟩ := open_string Try.underlying9 (hval 2 9 v2 rfl rfl) h2
  obtain ⟨up, rfl, rfl, rfl, w3⟩ := open_string Try.underlying9 (hval 3 9 v3 rfl rfl) h3
  have k0 := h0
  have k1 := h1
  have lt0 : ∀ x ∈ p0, x.block < W.heap.size := by obtain ⟨m, hm⟩ := k0; exact DataW.trod_lt m _ _ _ hm
  have lt1 : ∀ x ∈ p1, x.block < W.heap.size := by obtain ⟨m, hm⟩ := k1; exact DataW.trod_lt m _ _ _ hm
  obtain ⟨F, T, hL, hnil0, hmax0⟩ : ∃ F T, LIn W a0 len0 F T ∧ (a0 = none → len0 = 0) ∧ len0 ≤ maxLen := by
    obtain ⟨fuel, hf⟩ := h0
    rcases Deep.open_slice_pairs Try.underlying22 Try.underlying37 (by kernel_rfl) rfl rfl (by kernel_rfl) (by kernel_rfl) hf with ⟨hcs, _⟩ | ⟨x, l, c, m, n, V0, V1, D0, D1, P0, P1, hcs, _, hl, hm, hmm, _, hx⟩
    · simp [Value.cells] at hcs
      obtain ⟨rfl, rfl, rfl⟩ := hcs
      exact ⟨fun _ => ByteArray.empty, fun _ => ByteArray.empty, ⟨fun h => by omega, fun i hi => by omega⟩, fun _ => rfl, Nat.zero_le _⟩
    · simp [Value.cells] at hcs
      obtain ⟨rfl, rfl, rfl⟩ := hcs
      have hm' : m = cap0 := by simpa using hmm
      subst hm'
      have each : ∀ i, i < len0 → ∃ q : ByteArray × ByteArray, W.cell? (x.add (i * 2)) = some (.string q.1) ∧ W.cell? (x.add (i * 2 + 1)) = some (.string q.2) ∧ q.1.size ≤ maxLen ∧ q.2.size ≤ maxLen := by
        intro i hi
        obtain ⟨c1, c2, t1, t2⟩ := hx i (by omega)
        obtain ⟨s1, e1, _, z1⟩ := DataW.trod_string Try.underlying9 t1
        obtain ⟨s2, e2, _, z2⟩ := DataW.trod_string Try.underlying9 t2
        simp only [List.cons.injEq, and_true] at e1 e2
        exact ⟨(s1, s2), by rw [c1, e1], by rw [c2, e2], z1, z2⟩
      obtain ⟨q, hq⟩ := Deep.choose_lt each
      refine ⟨fun i => (q i).1, fun i => (q i).2, ⟨fun hp => ?_, fun i hi => ⟨(hq i hi).2.2.1, (hq i hi).2.2.2⟩⟩, (fun h => by cases h), by omega⟩
      obtain ⟨b, off, spot⟩ := x
      have hspot : spot = none := by simpa [Addr.add] using World.cell?_spot (hq 0 (by omega)).1
      subst hspot
      refine ⟨b, off, rfl, fun i hi => ⟨?_, ?_⟩⟩
      · have := (hq i hi).1
        rwa [add_plain] at this
      · have := (hq i hi).2.1
        rwa [add_plain] at this
  obtain ⟨A, hS, hnil1, hmax1⟩ : ∃ A, SIn W a1 len1 A ∧ (a1 = none → len1 = 0) ∧ len1 ≤ maxLen := by
    obtain ⟨fuel, hf⟩ := h1
    rcases open_strings Try.underlying23 Try.underlying9 (by kernel_rfl) hf with ⟨hcs, _⟩ | ⟨x, l, c, ss, hcs, _, hl, hm, hz, _, hcell, hws⟩
    · simp [Value.cells] at hcs
      obtain ⟨rfl, rfl, rfl⟩ := hcs
      exact ⟨fun _ => ByteArray.empty, ⟨fun h => by omega, fun i hi => by omega⟩, fun _ => rfl, Nat.zero_le _⟩
    · simp [Value.cells] at hcs
      obtain ⟨rfl, rfl, rfl⟩ := hcs
      have hz' : ss.length = cap1 := by simpa using hz
      refine ⟨fun i => ss.getD i ByteArray.empty, ⟨fun hp => ?_, fun i hi => ?_⟩, (fun h => by cases h), by omega⟩
      · obtain ⟨b, off, spot⟩ := x
        have hspot : spot = none := by simpa [Addr.add] using World.cell?_spot (hcell 0 (by omega))
        subst hspot
        exact ⟨b, off, rfl, fun i hi => by rw [← add_plain]; exact hcell i (by omega)⟩
      · have hi' : i < ss.length := by omega
        have e : ss.getD i ByteArray.empty = ss[i] := by simp [List.getD, hi']
        rw [e]
        exact hws _ (List.getElem_mem hi')
  clear hA0 hval0
  refine (law_walk W a0 len0 cap0 F T hL a1 len1 cap1 A hS hmax0 hmax1 hnil0 hnil1 lo up w2 w3).mono fun e W' ⟨he, bel⟩ => ?_
  subst he
  exact ⟨_, rfl, _, _, _, [], _, [], hW', trodAll_mk1 (shut_bool Try.underlying4 _), (trodAll_cons_mk (Below.trod laidOut (by kernel_rfl) (of_decide_eq_true (by kernel_rfl)) k0 bel lt0) (trodAll_cons_mk (Below.trod laidOut (by kernel_rfl) (of_decide_eq_true (by kernel_rfl)) k1 bel lt1) (trodAll_cons_mk (shut_string Try.underlying9 w2) (trodAll_cons_mk (shut_string Try.underlying9 w3) trodAll_mk0)))), rfl, bel.frame _, fun h => by cases h⟩

theorem over : Rows.fnChainIsFirstOfShortestRow.holds Try.pinned (OpenSpec.ofChange Rows.fnChainIsFirstOfShortestSpec) :=
  OpenClaim.holds_of_wide 3 Try.f3 rfl rfl rfl rfl rfl rfl rfl ⟨rfl, rfl, rfl, rfl, rfl⟩ rfl rfl rfl rfl rfl (by kernel_rfl) Try.func3 (by kernel_rfl)
    (of_decide_eq_true (by kernel_rfl)) (by unfold Func.isWrapper; first | (rw [if_pos (by decide +kernel)]; kernel_rfl) | (rw [if_neg (by decide +kernel)]; exact ⟨rfl, rfl⟩))
    (fun os started H enc _ => lifted os started H enc)

/-- ████ THE STATEMENT ████ -/
theorem proved : Rows.FnChainIsFirstOfShortestSaid := over
#print axioms proved
end Go.Proofs.Qxb6600574a.fnChainIsFirstOfShortest
