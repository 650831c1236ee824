/-
  'Rows.FnKeysGivenAgainReportsEarlierEqualSaid': THE ROW OVER THE WALK.
-/
import Derived.Test.Qxb6605411aRows
import Derived.WalkKit
import Derived.ProofKit
import Derived.OpenShut
import Derived.Deep.Matrix
import Derived.Test.Qxb6605411aKeysWalk
namespace Go.Proofs.Qxb6605411a.fnKeysGivenAgainReportsEarlierEqual
open Go.ChangeShapes Go.WideShapes Go.ChangeAt Go.RowKit Go.Deep

theorem own : ownKnob Try.prog.godebug = none := by kernel_rfl
theorem laidOut : laidOutB Try.prog = true := by kernel_rfl

theorem byt_nums (zs : List Int) (n i : Nat) (hi : i < n) (hn : n ≤ zs.length) (hw : ∀ z ∈ zs, (Lit.int .u8 z).wf = true) : byt (strOfNums (zs.take n)) i = zs.getD i 0 := by
  have hi' : i < zs.length := by omega
  have hb := bounds_u8 (hw zs[i] (List.getElem_mem hi'))
  unfold byt
  rw [strOfNums_data]
  simp [List.getD, hi, hi']
  omega

/-- From the reading to what the walk is told. -/
theorem kin_of {w : World} {x : Addr} {len cap : Nat} {A : Nat → Option Addr} {L C : Nat → Nat} {Z : Nat → List Int} (hl : len ≤ cap)
    (hr : ∀ r, r < cap → w.cell? (x.add r) = some (.slice (A r) (L r) (C r)) ∧ L r ≤ C r ∧ C r ≤ maxLen ∧ (Z r).length = C r ∧ (∀ n ∈ Z r, (Lit.int .u8 n).wf = true) ∧ (A r = none → C r = 0) ∧
        ∀ a', A r = some a' → 0 ≤ a'.block ∧ ∀ c, c < C r → w.cell? (a'.add c) = some (.int .u8 ((Z r).getD c 0))) :
    KIn w (some x) len A L C (fun r => strOfNums ((Z r).take (L r))) := by
  refine ⟨fun h0 => ?_, fun i hi ha => ?_, fun i hi => ?_, fun i hi => ?_, fun i hi h0 => ?_⟩
  · obtain ⟨b, off, spot⟩ := x
    have hspot : spot = none := by simpa [Addr.add] using World.cell?_spot (hr 0 (by omega)).1
    subst hspot
    exact ⟨b, off, rfl, fun i hi => by rw [← add_plain]; exact (hr i (by omega)).1⟩
  · obtain ⟨_, h1, _, _, _, h2, _⟩ := hr i (by omega)
    have := h2 ha
    omega
  · obtain ⟨_, h1, _, h3, _⟩ := hr i (by omega)
    rw [strOfNums_size, List.length_take]
    omega
  · obtain ⟨_, h1, h2, _⟩ := hr i (by omega)
    omega
  · obtain ⟨_, h1, _, h3, hw, h5, h6⟩ := hr i (by omega)
    cases ha : A i with
    | none => have := h5 ha; omega
    | some a' =>
      obtain ⟨_, hc⟩ := h6 a' ha
      obtain ⟨b, off, spot⟩ := a'
      have hspot : spot = none := by simpa [Addr.add] using World.cell?_spot (hc 0 (by omega))
      subst hspot
      refine ⟨b, off, rfl, fun j hj => ?_⟩
      rw [← add_plain, hc j (by omega)]
      have e := byt_nums (Z i) (L i) j hj (by omega) hw
      rw [e]

set_option maxRecDepth 100000 in
theorem lifted (os : Os) (started : os.Started) (H : Type) (enc : TypeId × Value → H) :
    ReturnsInHanded {} Try.checked os 5 .any (Rows.fnKeysGivenAgainReportsEarlierEqualSpec.pre6 enc Try.prog Try.f5 Rows.fnKeysGivenAgainReportsEarlierEqualRow.domain false) (Rows.fnKeysGivenAgainReportsEarlierEqualSpec.post enc Try.prog Try.f5 false true false false) := by
  refine returnsInHanded_of_change (C := Try.checked) own started (by kernel_rfl) Try.func5
    (ChangeSpec.witness6 (enc := enc) (C := Try.checked) false ⟨#[], #[.slice none 0 0], []⟩ 8 (by kernel_rfl) (by kernel_rfl) (by kernel_rfl) (by kernel_rfl)) ?_
  intro W base args ds gs before hval0 hW hcnd _
  have hval : ∀ (j : Nat) t v, Try.f5.params[j]? = some t → args[j]? = some v → Value.okWide Try.prog W .any base t v := hval0
  have hW' := hW
  obtain ⟨p, q, hA0, hV, rfl, hfz, hnd⟩ := hW
  have hA : DataW.TrodAll enc Try.prog W 0 (fun _ => true) true Try.f5.params.toList args.toList ds p := hA0
  rw [Try.params5] at hA hval
  obtain ⟨v0, vs0, d0, ds0, p0, q0, hargs, rfl, rfl, h0, r0⟩ := trodAll_cons hA
  obtain ⟨rfl, rfl, rfl⟩ := trodAll_nil r0
  obtain rfl : args = #[v0] := by cases args; simp_all
  obtain ⟨rfl, rfl⟩ := trodVars_none hV
  obtain ⟨a0, len0, cap0, rfl⟩ := okWide_slice Try.underlying27 (hval 0 27 v0 rfl rfl)
  have k0 := h0
  have lt0 : ∀ x ∈ p0, x.block < W.heap.size := by obtain ⟨m, hm⟩ := k0; exact DataW.trod_lt m _ _ _ hm
  obtain ⟨A, L, C, T, hin, hmax⟩ : ∃ A L C T, KIn W a0 len0 A L C T ∧ len0 ≤ maxLen := by
    obtain ⟨fuel, hf⟩ := h0
    rcases open_int_rows Try.underlying27 Try.underlying22 Try.underlying5 (by kernel_rfl) (by kernel_rfl) hf with ⟨hcs, _⟩ | ⟨x, l, c, A, L, C, Z, hcs, _, hl, hm, _, hr⟩
    · simp [Value.cells] at hcs
      obtain ⟨rfl, rfl, rfl⟩ := hcs
      exact ⟨fun _ => none, fun _ => 0, fun _ => 0, fun _ => ByteArray.empty, ⟨fun h => by omega, fun i hi => by omega, fun i hi => by omega, fun i hi => by omega, fun i hi => by omega⟩, Nat.zero_le _⟩
    · simp [Value.cells] at hcs
      obtain ⟨rfl, rfl, rfl⟩ := hcs
      exact ⟨A, L, C, _, kin_of hl hr, by omega⟩
  clear hA0 hval0
  refine (keys_walk W a0 len0 cap0 A L C T hin hmax).mono fun e W' ⟨he, bel⟩ => ?_
  subst he
  exact ⟨_, rfl, _, _, _, [], _, [], hW', trodAll_mk1 (shut_bool Try.underlying4 _), (trodAll_cons_mk (Below.trod laidOut (by kernel_rfl) (of_decide_eq_true (by kernel_rfl)) k0 bel lt0) trodAll_mk0), rfl, bel.frame _, fun h => by cases h⟩

theorem over : Rows.fnKeysGivenAgainReportsEarlierEqualRow.holds Try.pinned (OpenSpec.ofChange Rows.fnKeysGivenAgainReportsEarlierEqualSpec) :=
  OpenClaim.holds_of_wide 5 Try.f5 rfl rfl rfl rfl rfl rfl rfl ⟨rfl, rfl, rfl, rfl, rfl⟩ rfl rfl rfl rfl rfl (by kernel_rfl) Try.func5 (by kernel_rfl)
    (of_decide_eq_true (by kernel_rfl)) (by unfold Func.isWrapper; first | (rw [if_pos (by decide +kernel)]; kernel_rfl) | (rw [if_neg (by decide +kernel)]; exact ⟨rfl, rfl⟩))
    (fun os started H enc _ => lifted os started H enc)

/-- ████ THE STATEMENT ████ -/
theorem proved : Rows.FnKeysGivenAgainReportsEarlierEqualSaid := over
#print axioms proved
end Go.Proofs.Qxb6605411a.fnKeysGivenAgainReportsEarlierEqual
