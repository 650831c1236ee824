import Derived.Test.Qxb6605349aRows
import Derived.WalkKit
import Derived.ProofKit
import Derived.OpenShut
import Derived.ShutString
import Derived.Test.Qxb6605349aFold
namespace Go.Proofs.Qxb6605349a.fnFoldASCIILowersExactlyTheCapitals
open Go.ChangeShapes Go.WideShapes Go.ChangeAt Go.RowKit
open Go.ChangeMaps (open_string shut_string)
set_option linter.unusedVariables false      -- a walk need not use every 'w<i>' (that an integer argument fits its kind)

theorem own : ownKnob Try.prog.godebug = none := by kernel_rfl

/-! ### THE WALK -/
theorem zz_any (s : ByteArray) (hs : s.size ≤ 1048576) (w : World) :
    Calls Try.prog 10 #[.string s] w fun e w' => e = .returned (.string (folded s)) ∧ Below w.heap.size w w' := by
  go_enter Try.func10, Try.ntmps10
  go_wp2_with fail
  refine (fold_any s hs _).mono ?_
  rintro e w' ⟨rfl, hb⟩
  go_wp2_with fail
  go_ret
  exact ⟨rfl, hb⟩

theorem folded_at (s : ByteArray) (k : Nat) (h : k < s.size) (h2 : k < (folded s).size) : ((folded s)[k].toNat : Int) = lowI (s[k].toNat : Int) := by
  have e : (folded s)[k] = lowB s[k] := by
    show (folded s).data[k] = lowB s.data[k]
    simp [folded, fold]
  rw [e, lowB_toNat]

theorem or32_all : ∀ n : Fin 26, bits BinOp.or IntKind.u8 ((n.val + 65 : Nat) : Int) 32 = ((n.val + 97 : Nat) : Int) := by decide +kernel

theorem or32 (c : UInt8) (h1 : 65 ≤ (c.toNat : Int)) (h2 : (c.toNat : Int) ≤ 90) : (lowI (c.toNat : Int) != bits BinOp.or IntKind.u8 (c.toNat : Int) 32) = false := by
  have h := or32_all ⟨c.toNat - 65, by omega⟩
  have e : c.toNat - 65 + 65 = c.toNat := by omega
  simp only [e] at h
  rw [h]
  have e2 : lowI (c.toNat : Int) = (c.toNat : Int) + 32 := by unfold lowI; rw [if_pos ⟨h1, h2⟩]
  rw [e2, bne_eq_false_iff_eq]
  omega

theorem same_low (c : UInt8) (h : ¬ (65 ≤ (c.toNat : Int) ∧ (c.toNat : Int) ≤ 90)) : (lowI (c.toNat : Int) != (c.toNat : Int)) = false := by
  rw [bne_eq_false_iff_eq]
  unfold lowI; rw [if_neg h]

set_option maxHeartbeats 1000000 in
theorem walk (a0 : ByteArray) (w0 : a0.size ≤ maxLen) (w : World) :
    Calls Try.prog 4 #[.string a0] w fun e w' => e = .returned (.bool true) ∧ Below w.heap.size w w' := by
  by_cases h : a0.size ≤ 1048576
  · go_enter Try.func4, Try.ntmps4
    go_wp2_with fail
    refine (bytes9_yes _ h _).mono ?_
    rintro e w' ⟨rfl, rfl⟩
    go_wp2_with fail
    refine (zz_any a0 h _).mono ?_
    rintro e w1 ⟨rfl, hb⟩
    have hsz := folded_size a0
    have hat := folded_at a0
    generalize folded a0 = f at *
    have Hat : Hid (∀ (k : Nat) (h : k < a0.size) (h2 : k < f.size), (f[k].toNat : Int) = lowI (a0[k].toNat : Int)) := hat
    clear hat
    go_wp2_with fail
    go_loop [4, 5] (fun i c => ∃ k : Nat, k ≤ a0.size ∧ i = .int .i64 k) (fun i _ => a0.size - (intOf i).toNat)
    case atStart => exact ⟨0, Nat.zero_le _, rfl⟩
    case round =>
      obtain ⟨k, hk, rfl⟩ := hrel
      by_cases hlt : k < a0.size
      · have hlf : k < f.size := by omega
        have hc := Hat.out k hlt hlf
        by_cases c1 : 65 ≤ (a0[k].toNat : Int)
        · by_cases c2 : (a0[k].toNat : Int) ≤ 90
          · have hne := or32 a0[k] c1 c2
            go_wp2
            go_round
            case rel => exact ⟨k + 1, by omega, by go_num⟩
            case measure => simp [intOf]; omega
          · have hne := same_low a0[k] (by omega)
            go_wp2
            go_round
            case rel => exact ⟨k + 1, by omega, by go_num⟩
            case measure => simp [intOf]; omega
        · have hne := same_low a0[k] (by omega)
          go_wp2
          go_round
          case rel => exact ⟨k + 1, by omega, by go_num⟩
          case measure => simp [intOf]; omega
      · go_wp2
        go_ret
        exact ⟨rfl, hb⟩
  · go_enter Try.func4, Try.ntmps4
    go_wp2_with fail
    refine (bytes9_no _ w0 h _).mono ?_
    rintro e w' ⟨rfl, rfl⟩
    go_wp2_with fail
    go_ret
    exact ⟨rfl, Below.refl _ _⟩

/-! ### THE ROW's STEP: WRITTEN OUT: LEAVE IT -/
set_option maxRecDepth 100000 in
theorem lifted (os : Os) (started : os.Started) (H : Type) (enc : TypeId × Value → H) :
    ReturnsInHanded {} Try.checked os 4 .any (Rows.fnFoldASCIILowersExactlyTheCapitalsSpec.pre6 enc Try.prog Try.f4 Rows.fnFoldASCIILowersExactlyTheCapitalsRow.domain false) (Rows.fnFoldASCIILowersExactlyTheCapitalsSpec.post enc Try.prog Try.f4 false true false false) := by
  refine returnsInHanded_of_change (C := Try.checked) own started (by kernel_rfl) Try.func4
    (ChangeSpec.witness6 (enc := enc) (C := Try.checked) false ⟨#[], #[.string ByteArray.empty], []⟩ 8 (by kernel_rfl) (by kernel_rfl) (by kernel_rfl) (by kernel_rfl)) ?_
  intro W base args ds gs before hval0 hW hcnd _
  have hval : ∀ (j : Nat) t v, Try.f4.params[j]? = some t → args[j]? = some v → Value.okWide Try.prog W .any base t v := hval0
  have hW' := hW
  obtain ⟨p, q, hA0, hV, rfl, hfz, hnd⟩ := hW
  have hA : DataW.TrodAll enc Try.prog W 0 (fun _ => true) true Try.f4.params.toList args.toList ds p := hA0
  rw [Try.params4] at hA hval
  obtain ⟨v0, vs0, d0, ds0, p0, q0, hargs, rfl, rfl, h0, r0⟩ := trodAll_cons hA
  obtain ⟨rfl, rfl, rfl⟩ := trodAll_nil r0
  obtain rfl : args = #[v0] := by cases args; simp_all
  obtain ⟨rfl, rfl⟩ := trodVars_none hV
  obtain ⟨a0, rfl, rfl, rfl, w0⟩ := open_string Try.underlying9 (hval 0 9 v0 rfl rfl) h0
  clear hA0 hval0
  simp only [List.append_nil] at hW'
  refine (walk a0 w0 W).mono fun e W' ⟨he, hg⟩ => ?_
  subst he
  exact ⟨_, rfl, _, _, _, [], [], [], hW', trodAll_mk1 (shut_bool Try.underlying4 _), (trodAll_cons_mk (shut_string Try.underlying9 w0) trodAll_mk0), rfl, hg.frame _, fun h => by cases h⟩

theorem over : Rows.fnFoldASCIILowersExactlyTheCapitalsRow.holds Try.pinned (OpenSpec.ofChange Rows.fnFoldASCIILowersExactlyTheCapitalsSpec) :=
  OpenClaim.holds_of_wide 4 Try.f4 rfl rfl rfl rfl rfl rfl rfl ⟨rfl, rfl, rfl, rfl, rfl⟩ rfl rfl rfl rfl rfl (by kernel_rfl) Try.func4 (by kernel_rfl)
    (of_decide_eq_true (by kernel_rfl)) (by unfold Func.isWrapper; first | (rw [if_pos (by decide +kernel)]; kernel_rfl) | (rw [if_neg (by decide +kernel)]; exact ⟨rfl, rfl⟩))
    (fun os started H enc _ => lifted os started H enc)

/-- ████ THE STATEMENT ████ -/
theorem proved : Rows.FnFoldASCIILowersExactlyTheCapitalsSaid :=
  over
#print axioms proved
end Go.Proofs.Qxb6605349a.fnFoldASCIILowersExactlyTheCapitals
