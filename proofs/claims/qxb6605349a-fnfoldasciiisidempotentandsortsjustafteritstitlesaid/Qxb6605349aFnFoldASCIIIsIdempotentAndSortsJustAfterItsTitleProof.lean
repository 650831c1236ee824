import Derived.Test.Qxb6605349aRows
import Derived.WalkKit
import Derived.ProofKit
import Derived.OpenShut
import Derived.ShutString
import Derived.Test.Qxb6605349aFold
namespace Go.Proofs.Qxb6605349a.fnFoldASCIIIsIdempotentAndSortsJustAfterItsTitle
open Go.ChangeShapes Go.WideShapes Go.ChangeAt Go.RowKit
open Go.ChangeMaps (open_string shut_string)
set_option linter.unusedVariables false      -- a walk need not use every 'w<i>' (that an integer argument fits its kind)

theorem own : ownKnob Try.prog.godebug = none := by kernel_rfl

/-! ### THE WALK -/
theorem zz_any (s : ByteArray) (hs : s.size ≤ 1048576) (w : World) :
    Calls Try.prog 10 #[.string s] w fun e w' => e = .returned (.string (folded s)) ∧ Below w.heap.size w w' := by
  go_enter Try.func10, Try.ntmps10
  go_wp2_with fail
  refine (fold_any s hs _).mono ?_
  rintro e w' ⟨rfl, hb⟩
  go_wp2_with fail
  go_ret
  exact ⟨rfl, hb⟩

theorem folded_twice (s : ByteArray) : folded (folded s) = folded s := by
  have e : fold (folded s).data.toList = fold s.data.toList := by rw [folded_data, fold_idem]
  show (⟨(fold (folded s).data.toList).toArray⟩ : ByteArray) = ⟨(fold s.data.toList).toArray⟩
  rw [e]

theorem same_fact (s : ByteArray) : ((folded s).toList == s.toList) = !(cap s.data.toList) := by
  rw [ByteArray.toList_eq, ByteArray.toList_eq, folded_data]
  have h := fold_eq_iff s.data.toList
  cases hc : cap s.data.toList
  · rw [h.2 hc]; simp
  · have hne : ¬ fold s.data.toList = s.data.toList := fun e => by rw [h.1 e] at hc; cases hc
    simpa using hne

theorem titles_at {a b : ByteArray} {x : Int} (h : ct a.data.toList b.data.toList = x) (ha : a.size ≤ maxLen) (w : World) :
    Calls Try.prog 7 #[.string a, .string b] w fun e w' => e = .returned (.int .i64 x) ∧ ∃ n, w' = w.drewN n := by
  rw [← h]; exact titles_any a b ha w

theorem has_at {s : ByteArray} {c : Bool} (h : cap s.data.toList = c) (hs : s.size ≤ maxLen) (w : World) :
    Calls Try.prog 12 #[.string s] w fun e w' => e = .returned (.bool c) ∧ w' = w := by
  rw [← h]; exact has_any s hs w

theorem zz_at {s f : ByteArray} (h : folded s = f) (hs : s.size ≤ 1048576) (w : World) :
    Calls Try.prog 10 #[.string s] w fun e w' => e = .returned (.string f) ∧ Below w.heap.size w w' := by
  rw [← h]; exact zz_any s hs w

set_option maxHeartbeats 1000000 in
theorem walk_in (a0 f : ByteArray) (c : Bool) (x : Int) (w0 : a0.size ≤ maxLen) (wf : f.size ≤ maxLen) (h : a0.size ≤ 1048576) (hf : f.size ≤ 1048576) (w : World)
    (k1 : Hid (cap a0.data.toList = c)) (k2 : Hid (folded a0 = f)) (k3 : Hid (folded f = f)) (k4 : Hid (ct a0.data.toList f.data.toList = x)) (k5 : Hid (ct f.data.toList a0.data.toList = -x))
    (hx : Hid (x = if c then -1 else 0)) (he : (f.toList == a0.toList) = !c) :
    Calls Try.prog 5 #[.string a0] w fun e w' => e = .returned (.bool true) ∧ Below w.heap.size w w' := by
  cases c
  · have hx0 : x = 0 := by simpa using hx.out
    subst hx0
    go_enter Try.func5, Try.ntmps5
    go_wp2_with fail
    refine (bytes11_yes _ h _).mono ?_
    rintro e w' ⟨rfl, rfl⟩
    go_wp2_with fail
    refine (has_at k1.out w0 _).mono ?_
    rintro e w' ⟨rfl, rfl⟩
    go_wp2_with fail
    refine (zz_at k2.out h _).mono ?_
    rintro e w1 ⟨rfl, hb1⟩
    go_wp2_with fail
    refine (zz_at k3.out hf _).mono ?_
    rintro e w2 ⟨rfl, hb2⟩
    go_wp2_with fail
    refine (titles_at k4.out w0 _).mono ?_
    rintro e w3 ⟨rfl, n3, rfl⟩
    go_wp2_with fail
    refine (titles_at k5.out wf _).mono ?_
    rintro e w4 ⟨rfl, n4, rfl⟩
    go_wp2_with fail
    go_ret
    exact ⟨rfl, by repeat (first | exact hb1.trans (hb2.mono hb1.size) | apply below_drewN)⟩
  · have hx0 : x = -1 := by simpa using hx.out
    subst hx0
    go_enter Try.func5, Try.ntmps5
    go_wp2_with fail
    refine (bytes11_yes _ h _).mono ?_
    rintro e w' ⟨rfl, rfl⟩
    go_wp2_with fail
    refine (has_at k1.out w0 _).mono ?_
    rintro e w' ⟨rfl, rfl⟩
    go_wp2_with fail
    refine (zz_at k2.out h _).mono ?_
    rintro e w1 ⟨rfl, hb1⟩
    go_wp2_with fail
    refine (zz_at k3.out hf _).mono ?_
    rintro e w2 ⟨rfl, hb2⟩
    go_wp2_with fail
    refine (titles_at k4.out w0 _).mono ?_
    rintro e w3 ⟨rfl, n3, rfl⟩
    go_wp2_with fail
    refine (titles_at k5.out wf _).mono ?_
    rintro e w4 ⟨rfl, n4, rfl⟩
    go_wp2_with fail
    go_ret
    exact ⟨rfl, by repeat (first | exact hb1.trans (hb2.mono hb1.size) | apply below_drewN)⟩

theorem walk (a0 : ByteArray) (w0 : a0.size ≤ maxLen) (w : World) :
    Calls Try.prog 5 #[.string a0] w fun e w' => e = .returned (.bool true) ∧ Below w.heap.size w w' := by
  by_cases h : a0.size ≤ 1048576
  · have hs := folded_size a0
    have h1 := ct_fold a0.data.toList
    rw [← folded_data] at h1
    have h2 := ct_anti (folded a0).data.toList a0.data.toList
    exact walk_in a0 (folded a0) _ _ w0 (by omega) h (by omega) w rfl rfl (folded_twice a0) rfl h2 h1 (same_fact a0)
  · go_enter Try.func5, Try.ntmps5
    go_wp2_with fail
    refine (bytes11_no _ w0 h _).mono ?_
    rintro e w' ⟨rfl, rfl⟩
    go_wp2_with fail
    go_ret
    exact ⟨rfl, Below.refl _ _⟩

/-! ### THE ROW's STEP: WRITTEN OUT: LEAVE IT -/
set_option maxRecDepth 100000 in
theorem lifted (os : Os) (started : os.Started) (H : Type) (enc : TypeId × Value → H) :
    ReturnsInHanded {} Try.checked os 5 .any (Rows.fnFoldASCIIIsIdempotentAndSortsJustAfterItsTitleSpec.pre6 enc Try.prog Try.f5 Rows.fnFoldASCIIIsIdempotentAndSortsJustAfterItsTitleRow.domain false) (Rows.fnFoldASCIIIsIdempotentAndSortsJustAfterItsTitleSpec.post enc Try.prog Try.f5 false true false false) := by
  refine returnsInHanded_of_change (C := Try.checked) own started (by kernel_rfl) Try.func5
    (ChangeSpec.witness6 (enc := enc) (C := Try.checked) false ⟨#[], #[.string ByteArray.empty], []⟩ 8 (by kernel_rfl) (by kernel_rfl) (by kernel_rfl) (by kernel_rfl)) ?_
  intro W base args ds gs before hval0 hW hcnd _
  have hval : ∀ (j : Nat) t v, Try.f5.params[j]? = some t → args[j]? = some v → Value.okWide Try.prog W .any base t v := hval0
  have hW' := hW
  obtain ⟨p, q, hA0, hV, rfl, hfz, hnd⟩ := hW
  have hA : DataW.TrodAll enc Try.prog W 0 (fun _ => true) true Try.f5.params.toList args.toList ds p := hA0
  rw [Try.params5] at hA hval
  obtain ⟨v0, vs0, d0, ds0, p0, q0, hargs, rfl, rfl, h0, r0⟩ := trodAll_cons hA
  obtain ⟨rfl, rfl, rfl⟩ := trodAll_nil r0
  obtain rfl : args = #[v0] := by cases args; simp_all
  obtain ⟨rfl, rfl⟩ := trodVars_none hV
  obtain ⟨a0, rfl, rfl, rfl, w0⟩ := open_string Try.underlying9 (hval 0 9 v0 rfl rfl) h0
  clear hA0 hval0
  simp only [List.append_nil] at hW'
  refine (walk a0 w0 W).mono fun e W' ⟨he, hg⟩ => ?_
  subst he
  exact ⟨_, rfl, _, _, _, [], [], [], hW', trodAll_mk1 (shut_bool Try.underlying4 _), (trodAll_cons_mk (shut_string Try.underlying9 w0) trodAll_mk0), rfl, hg.frame _, fun h => by cases h⟩

theorem over : Rows.fnFoldASCIIIsIdempotentAndSortsJustAfterItsTitleRow.holds Try.pinned (OpenSpec.ofChange Rows.fnFoldASCIIIsIdempotentAndSortsJustAfterItsTitleSpec) :=
  OpenClaim.holds_of_wide 5 Try.f5 rfl rfl rfl rfl rfl rfl rfl ⟨rfl, rfl, rfl, rfl, rfl⟩ rfl rfl rfl rfl rfl (by kernel_rfl) Try.func5 (by kernel_rfl)
    (of_decide_eq_true (by kernel_rfl)) (by unfold Func.isWrapper; first | (rw [if_pos (by decide +kernel)]; kernel_rfl) | (rw [if_neg (by decide +kernel)]; exact ⟨rfl, rfl⟩))
    (fun os started H enc _ => lifted os started H enc)

/-- ████ THE STATEMENT ████ -/
theorem proved : Rows.FnFoldASCIIIsIdempotentAndSortsJustAfterItsTitleSaid :=
  over
#print axioms proved
end Go.Proofs.Qxb6605349a.fnFoldASCIIIsIdempotentAndSortsJustAfterItsTitle
