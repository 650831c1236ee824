/-
  foldASCII.
-/
import Derived.Test.Qxb6605349aHas
import Derived.Test.Qxb6605349aShelf
import Derived.WalkSmall
namespace Go.Proofs.Qxb6605349a
open Go.RowKit

theorem take_snoc (s : ByteArray) (k : Nat) (h : k < s.size) : s.data.toList.take (k + 1) = s.data.toList.take k ++ [s[k]] := by
  rw [List.take_succ_eq_append_getElem (by simpa using h)]; rfl

theorem fold_snoc (l : List UInt8) (c : UInt8) : fold (l ++ [c]) = fold l ++ [lowB c] := by simp [fold]

/-- The string that foldASCII gives. -/
def folded (s : ByteArray) : ByteArray := ⟨(fold s.data.toList).toArray⟩
theorem folded_data (s : ByteArray) : (folded s).data.toList = fold s.data.toList := by simp [folded]
theorem folded_size (s : ByteArray) : (folded s).size = s.size := by
  show (folded s).data.size = _
  rw [← Array.length_toList, folded_data, fold_length, Array.length_toList]; rfl

theorem folded_self (s : ByteArray) (h : fold s.data.toList = s.data.toList) : s = folded s := by
  unfold folded; rw [h]

theorem keyL_self (c : UInt8) (h : (keyL c == (c.toNat : Int)) = true) : lowB c = c := by
  apply toNatI_inj
  rw [lowB_toNat]
  simpa [keyL] using h

theorem cells_snoc (s : ByteArray) (k : Nat) (h : k < s.size) :
    Lib.byteCells (fold (s.data.toList.take k)) ++ [.int .u8 (keyL s[k])] = Lib.byteCells (fold (s.data.toList.take (k + 1))) := by
  rw [take_snoc s k h, fold_snoc, Lib.byteCells_append]
  congr 1
  show [Value.int .u8 (lowI (s[k].toNat : Int))] = [Value.int .u8 ((lowB s[k]).toNat : Int)]
  rw [lowB_toNat]

theorem below_of_drawn {w wr : World} (h : ∃ n, wr = w.drewN n) : Below w.heap.size w wr ∧ wr.heap.size = w.heap.size := by
  obtain ⟨n, rfl⟩ := h
  exact ⟨below_drewN (Below.refl _ _) _, rfl⟩

theorem below_up {w wr w' : World} (h : ∃ n, wr = w.drewN n) (hb : Below wr.heap.size wr w') : Below w.heap.size w w' := by
  obtain ⟨h1, h2⟩ := below_of_drawn h
  exact h1.trans (h2 ▸ hb)

theorem below_alloc0 {w w1 : World} {o : Obj} (h : Below w.heap.size w w1) : Below w.heap.size w (w1.alloc o) := h.alloc h.size o

theorem head_cells (s : ByteArray) (k : Nat) (h : fold (s.data.toList.take k) = s.data.toList.take k) :
    ([] : List Value) ++ Lib.strCells (s.extract 0 k) = Lib.byteCells (fold (s.data.toList.take k)) := by
  rw [h, List.nil_append, Lib.strCells_eq, Lib.extract_data]
  simp

set_option maxHeartbeats 2000000 in
theorem fold_any (s : ByteArray) (hs : s.size ≤ 1048576) (w : World) :
    Calls Try.prog 15 #[.string s] w fun e w' => e = .returned (.string (folded s)) ∧ Below w.heap.size w w' := by
  go_enter Try.func15, Try.ntmps15
  go_wp2
  go_loopw [3] (fun i wr => ∃ k : Nat, k ≤ s.size ∧ i = .int .i64 k ∧ Hid (fold (s.data.toList.take k) = s.data.toList.take k) ∧ ∃ n, wr = w.drewN n) (fun i _ => s.size - (intOf i).toNat)
  case atStart => exact ⟨0, Nat.zero_le _, rfl, (rfl : fold [] = []), 0, rfl⟩
  case round =>
    obtain ⟨k, hk, rfl, hf, hw⟩ := hrel
    by_cases hlt : k < s.size
    · have hlt' : (k : Int) < (s.size : Int) := by omega
      have hne : ((k : Int) == (s.size : Int)) = false := by simp; omega
      go_wp2
      go_quiet ((go_at_call 13; exact Calls.quiet_of_same (lower_byte _ _)))
      go_wp2_with fail
      · have he : (keyL s[k] == (s[k].toNat : Int)) = true := by assumption
        go_roundw
        case rel => exact ⟨k + 1, by omega, by go_num, (by rw [take_snoc s k hlt, fold_snoc, hf.out, keyL_self _ he] : fold (s.data.toList.take (k + 1)) = s.data.toList.take (k + 1)), drawn hw _⟩
        case measure => simp [intOf]; omega
      · refine (Try.Builder_Grow_fresh wr.heap.size wr.heap.size s.size _ (Nat.le_refl _) ?_ ?_ (by omega)).mono ?_
        · simp [World.alloc]
        · simp
        rintro e w1 ⟨rfl, hB1, hb1⟩
        have hz1 := hb1.size
        simp at hz1
        go_wp2_with fail
        refine (Try.Builder_WriteString wr.heap.size wr.heap.size [] _ _ (Or.inr hB1) ?_ ?_).mono ?_
        · simp; omega
        · omega
        rintro e w2 ⟨rfl, hB2, hb2⟩
        go_wp2_with fail
        have hB2' : Lib.BuilderAt 31 5 wr.heap.size wr.heap.size (.pointer (some ⟨wr.heap.size, 0, none⟩)) (Lib.byteCells (fold (s.data.toList.take k))) w2 := by
          rw [← head_cells s k hf.out]; exact hB2
        have hbw : Below wr.heap.size wr w2 := ((below_alloc0 (below_drewN (Below.refl _ _) nq)).trans hb1).trans hb2
        clear hB2 hb1 hb2 hB1
        go_loopw [3] (fun i wx => ∃ j : Nat, j ≤ s.size ∧ i = .int .i64 j ∧ Lib.BuilderAt 31 5 wr.heap.size wr.heap.size (.pointer (some ⟨wr.heap.size, 0, none⟩)) (Lib.byteCells (fold (s.data.toList.take j))) wx ∧ Below wr.heap.size wr wx) (fun i _ => s.size - (intOf i).toNat)
        case atStart => exact ⟨k, hk, rfl, hB2', hbw⟩
        case round =>
          obtain ⟨j, hj, rfl, hBj, hbj⟩ := hrel
          have hzj := hbj.size
          have hln : (Lib.byteCells (fold (s.data.toList.take j))).length ≤ s.size := by
            rw [Lib.byteCells_length, fold_length, List.length_take]; simp; omega
          by_cases hjlt : j < s.size
          · go_wp2_with fail
            refine (lower_byte _ _).mono ?_
            rintro e w' ⟨rfl, rfl⟩
            go_wp2_with fail
            refine (Try.Builder_WriteByte _ _ _ _ _ (Or.inr hBj) (by omega) hzj).mono ?_
            rintro e w3 ⟨rfl, hB3, hb3⟩
            rw [cells_snoc s j hjlt] at hB3
            go_wp2_with fail
            go_roundw
            case rel => exact ⟨j + 1, by omega, by go_num, hB3, hbj.trans hb3⟩
            case measure => simp [intOf]; omega
          · go_wp2_with fail
            refine (Try.Builder_String_any _ _ _ _ (Or.inr hBj) hzj).mono ?_
            rintro e w3 ⟨rfl, hb3⟩
            go_wp2_with fail
            go_ret
            exact ⟨by rw [List.take_of_length_le (by simp; omega)]; rfl, below_up hw (hbj.trans hb3)⟩
    · have hd : decide ((k : Int) < (s.size : Int)) = false := by simp; omega
      have he : ((k : Int) == (s.size : Int)) = true := by simp; omega
      go_wp2
      go_quiet ((fail))
      go_wp2_with fail
      go_ret
      exact ⟨congrArg (fun x => Ending.returned (.string x)) (folded_self s (by have := hf.out; rwa [List.take_of_length_le (by simp; omega)] at this)), below_drewN (below_of_drawn hw).1 _⟩
end Go.Proofs.Qxb6605349a
