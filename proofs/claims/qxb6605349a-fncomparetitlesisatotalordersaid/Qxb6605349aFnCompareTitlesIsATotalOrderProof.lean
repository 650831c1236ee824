import Derived.Test.Qxb6605349aRows
import Derived.WalkKit
import Derived.ProofKit
import Derived.OpenShut
import Derived.ShutString
import Derived.Test.Qxb6605349aCmp
namespace Go.Proofs.Qxb6605349a.fnCompareTitlesIsATotalOrder
open Go.ChangeShapes Go.WideShapes Go.ChangeAt Go.RowKit
open Go.ChangeMaps (open_string shut_string)
set_option linter.unusedVariables false      -- a walk need not use every 'w<i>' (that an integer argument fits its kind)

theorem own : ownKnob Try.prog.godebug = none := by kernel_rfl

/-! ### THE WALK -/
theorem bytes_yes (a b c : ByteArray) (h : a.size + b.size + c.size ≤ 1048576) (w : World) :
    Calls Try.prog 6 #[.string a, .string b, .string c] w fun e w' => e = .returned (.bool true) ∧ w' = w := by
  go_enter Try.func6, Try.ntmps6
  go_wp2
  go_ret
  exact ⟨rfl, rfl⟩

theorem bytes_no (a b c : ByteArray) (wa : a.size ≤ maxLen) (wb : b.size ≤ maxLen) (wc : c.size ≤ maxLen) (h : ¬ a.size + b.size + c.size ≤ 1048576) (w : World) :
    Calls Try.prog 6 #[.string a, .string b, .string c] w fun e w' => e = .returned (.bool false) ∧ w' = w := by
  unfold maxLen at wa wb wc
  by_cases h1 : a.size ≤ 1048576
  · by_cases h2 : b.size ≤ 1048576
    · by_cases h3 : a.size + b.size ≤ 1048576
      · by_cases h4 : c.size ≤ 1048576
        · go_enter Try.func6, Try.ntmps6
          go_wp2
          go_ret
          exact ⟨rfl, rfl⟩
        · go_enter Try.func6, Try.ntmps6
          go_wp2
          go_ret
          exact ⟨rfl, rfl⟩
      · go_enter Try.func6, Try.ntmps6
        go_wp2
        go_ret
        exact ⟨rfl, rfl⟩
    · go_enter Try.func6, Try.ntmps6
      go_wp2
      go_ret
      exact ⟨rfl, rfl⟩
  · go_enter Try.func6, Try.ntmps6
    go_wp2
    go_ret
    exact ⟨rfl, rfl⟩

theorem sign_yes (x : Int) (h : x = -1 ∨ x = 0 ∨ x = 1) (w : World) :
    Calls Try.prog 8 #[.int .i64 x] w fun e w' => e = .returned (.bool true) ∧ w' = w := by
  rcases h with rfl | rfl | rfl
  all_goals
    go_enter Try.func8, Try.ntmps8
    go_wp2
    go_ret
    exact ⟨rfl, rfl⟩

theorem grown_drewN {w w' : World} (h : Grown w w') (n : Nat) : Grown w (w'.drewN n) := by
  induction n generalizing w' with
  | zero => exact h
  | succ n ih => exact ih h.drew

theorem zero_fact {a b : ByteArray} {x : Int} (h : ct a.data.toList b.data.toList = x) : (x == 0) = (a.toList == b.toList) := by
  have h1 := ct_zero a.data.toList b.data.toList
  rw [h] at h1
  rw [ByteArray.toList_eq, ByteArray.toList_eq, Bool.eq_iff_iff, beq_iff_eq, beq_iff_eq]
  exact h1

theorem titles_at {a b : ByteArray} {x : Int} (h : ct a.data.toList b.data.toList = x) (ha : a.size ≤ maxLen) (w : World) :
    Calls Try.prog 7 #[.string a, .string b] w fun e w' => e = .returned (.int .i64 x) ∧ ∃ n, w' = w.drewN n := by
  rw [← h]; exact titles_any a b ha w

set_option maxHeartbeats 1000000 in
theorem walk_in (a0 a1 a2 : ByteArray) (x y z x' y' z' : Int) (w0 : a0.size ≤ maxLen) (w1 : a1.size ≤ maxLen) (w2 : a2.size ≤ maxLen) (w : World) (h : a0.size + a1.size + a2.size ≤ 1048576)
    (kx : Hid (ct a0.data.toList a1.data.toList = x)) (ky : Hid (ct a1.data.toList a2.data.toList = y)) (kz : Hid (ct a0.data.toList a2.data.toList = z))
    (kx' : Hid (ct a1.data.toList a0.data.toList = x')) (ky' : Hid (ct a2.data.toList a1.data.toList = y')) (kz' : Hid (ct a2.data.toList a0.data.toList = z'))
    (sx : Hid (x = -1 ∨ x = 0 ∨ x = 1)) (sy : Hid (y = -1 ∨ y = 0 ∨ y = 1)) (sz : Hid (z = -1 ∨ z = 0 ∨ z = 1))
    (bx : -1 ≤ x') (bx2 : x' ≤ 1) (bY : -1 ≤ y') (by2 : y' ≤ 1) (bz : -1 ≤ z') (bz2 : z' ≤ 1)
    (nx : (x != -x') = false) (ny : (y != -y') = false) (nz : (z != -z') = false)
    (ex : (x == 0) = (a0.toList == a1.toList)) (ey : (y == 0) = (a1.toList == a2.toList)) (ez : (z == 0) = (a0.toList == a2.toList))
    (t1 : x ≤ 0 → y ≤ 0 → z ≤ 0) (t2 : 0 ≤ x → 0 ≤ y → 0 ≤ z) :
    Calls Try.prog 3 #[.string a0, .string a1, .string a2] w fun e w' => e = .returned (.bool true) ∧ Grown w w' := by
  go_enter Try.func3, Try.ntmps3
  go_wp2_with fail
  refine (bytes_yes _ _ _ h _).mono ?_
  rintro e w' ⟨rfl, rfl⟩
  go_wp2_with fail
  refine (titles_at kx.out w0 _).mono ?_
  rintro e w' ⟨rfl, n1, rfl⟩
  go_wp2_with fail
  refine (titles_at kx'.out w1 _).mono ?_
  rintro e w' ⟨rfl, n2, rfl⟩
  go_wp2_with fail
  refine (titles_at ky.out w1 _).mono ?_
  rintro e w' ⟨rfl, n3, rfl⟩
  go_wp2_with fail
  refine (titles_at ky'.out w2 _).mono ?_
  rintro e w' ⟨rfl, n4, rfl⟩
  go_wp2_with fail
  refine (titles_at kz.out w0 _).mono ?_
  rintro e w' ⟨rfl, n5, rfl⟩
  go_wp2_with fail
  refine (titles_at kz'.out w2 _).mono ?_
  rintro e w' ⟨rfl, n6, rfl⟩
  go_wp2_with fail
  refine (sign_yes _ sx.out _).mono ?_
  rintro e w' ⟨rfl, rfl⟩
  go_wp2_with fail
  refine (sign_yes _ sy.out _).mono ?_
  rintro e w' ⟨rfl, rfl⟩
  go_wp2_with fail
  refine (sign_yes _ sz.out _).mono ?_
  rintro e w' ⟨rfl, rfl⟩
  go_wp2_with fail
  all_goals
    go_ret
    exact ⟨rfl, by repeat (first | exact Grown.refl _ | apply grown_drewN)⟩

theorem walk (a0 : ByteArray) (a1 : ByteArray) (a2 : ByteArray) (w0 : a0.size ≤ maxLen) (w1 : a1.size ≤ maxLen) (w2 : a2.size ≤ maxLen) (w : World) :
    Calls Try.prog 3 #[.string a0, .string a1, .string a2] w fun e w' => e = .returned (.bool true) ∧ Grown w w' := by
  by_cases h : a0.size + a1.size + a2.size ≤ 1048576
  · have s1 := ct_sign a0.data.toList a1.data.toList
    have s2 := ct_sign a1.data.toList a2.data.toList
    have s3 := ct_sign a0.data.toList a2.data.toList
    have n1 := ct_anti a0.data.toList a1.data.toList
    have n2 := ct_anti a1.data.toList a2.data.toList
    have n3 := ct_anti a0.data.toList a2.data.toList
    exact walk_in a0 a1 a2 _ _ _ _ _ _ w0 w1 w2 w h rfl rfl rfl rfl rfl rfl s1 s2 s3 (by omega) (by omega) (by omega) (by omega) (by omega) (by omega)
      (by simpa using n1) (by simpa using n2) (by simpa using n3) (zero_fact rfl) (zero_fact rfl) (zero_fact rfl)
      (ct_trans _ _ _) (ct_trans' _ _ _)
  · go_enter Try.func3, Try.ntmps3
    go_wp2_with fail
    refine (bytes_no _ _ _ w0 w1 w2 h _).mono ?_
    rintro e w' ⟨rfl, rfl⟩
    go_wp2_with fail
    go_ret
    exact ⟨rfl, Grown.refl _⟩

/-! ### THE ROW's STEP: WRITTEN OUT: LEAVE IT -/
set_option maxRecDepth 100000 in
theorem lifted (os : Os) (started : os.Started) (H : Type) (enc : TypeId × Value → H) :
    ReturnsInHanded {} Try.checked os 3 .any (Rows.fnCompareTitlesIsATotalOrderSpec.pre6 enc Try.prog Try.f3 Rows.fnCompareTitlesIsATotalOrderRow.domain false) (Rows.fnCompareTitlesIsATotalOrderSpec.post enc Try.prog Try.f3 false true false false) := by
  refine returnsInHanded_of_change (C := Try.checked) own started (by kernel_rfl) Try.func3
    (ChangeSpec.witness6 (enc := enc) (C := Try.checked) false ⟨#[], #[.string ByteArray.empty, .string ByteArray.empty, .string ByteArray.empty], []⟩ 8 (by kernel_rfl) (by kernel_rfl) (by kernel_rfl) (by kernel_rfl)) ?_
  intro W base args ds gs before hval0 hW hcnd _
  have hval : ∀ (j : Nat) t v, Try.f3.params[j]? = some t → args[j]? = some v → Value.okWide Try.prog W .any base t v := hval0
  have hW' := hW
  obtain ⟨p, q, hA0, hV, rfl, hfz, hnd⟩ := hW
  have hA : DataW.TrodAll enc Try.prog W 0 (fun _ => true) true Try.f3.params.toList args.toList ds p := hA0
  rw [Try.params3] at hA hval
  obtain ⟨v0, vs0, d0, ds0, p0, q0, hargs, rfl, rfl, h0, r0⟩ := trodAll_cons hA
  obtain ⟨v1, vs1, d1, ds1, p1, q1, rfl, rfl, rfl, h1, r1⟩ := trodAll_cons r0
  obtain ⟨v2, vs2, d2, ds2, p2, q2, rfl, rfl, rfl, h2, r2⟩ := trodAll_cons r1
  obtain ⟨rfl, rfl, rfl⟩ := trodAll_nil r2
  obtain rfl : args = #[v0, v1, v2] := by cases args; simp_all
  obtain ⟨rfl, rfl⟩ := trodVars_none hV
  obtain ⟨a0, rfl, rfl, rfl, w0⟩ := open_string Try.underlying9 (hval 0 9 v0 rfl rfl) h0
  obtain ⟨a1, rfl, rfl, rfl, w1⟩ := open_string Try.underlying9 (hval 1 9 v1 rfl rfl) h1
  obtain ⟨a2, rfl, rfl, rfl, w2⟩ := open_string Try.underlying9 (hval 2 9 v2 rfl rfl) h2
  clear hA0 hval0
  simp only [List.append_nil] at hW'
  refine (walk a0 a1 a2 w0 w1 w2 W).mono fun e W' ⟨he, hg⟩ => ?_
  subst he
  exact ⟨_, rfl, post_of_same (pa := []) (pv := []) hW' (fun _ _ _ => (trodAll_cons_mk (shut_bool Try.underlying4 _) trodAll_mk0)) (fun sp _ => (trodAll_cons_mk (shut_string Try.underlying9 w0) (trodAll_cons_mk (shut_string Try.underlying9 w1) (trodAll_cons_mk (shut_string Try.underlying9 w2) trodAll_mk0)))) (fun _ _ => rfl) rfl
    (hg.frame _) hg.2.1 (ok_one (by kernel_rfl) rfl (okWide_bool_mk Try.underlying4 _))⟩

theorem over : Rows.fnCompareTitlesIsATotalOrderRow.holds Try.pinned (OpenSpec.ofChange Rows.fnCompareTitlesIsATotalOrderSpec) :=
  OpenClaim.holds_of_wide 3 Try.f3 rfl rfl rfl rfl rfl rfl rfl ⟨rfl, rfl, rfl, rfl, rfl⟩ rfl rfl rfl rfl rfl (by kernel_rfl) Try.func3 (by kernel_rfl)
    (of_decide_eq_true (by kernel_rfl)) (by unfold Func.isWrapper; first | (rw [if_pos (by decide +kernel)]; kernel_rfl) | (rw [if_neg (by decide +kernel)]; exact ⟨rfl, rfl⟩))
    (fun os started H enc _ => lifted os started H enc)

/-- ████ THE STATEMENT ████ -/
theorem proved : Rows.FnCompareTitlesIsATotalOrderSaid :=
  over
#print axioms proved
end Go.Proofs.Qxb6605349a.fnCompareTitlesIsATotalOrder
