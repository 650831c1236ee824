/-
  slices.Reverse at []string (20), the shelf's contract laid at this dump; told of a slice of the call's own.
-/
import Derived.Shelf.Slices.ReverseS
import Derived.Test.Qxb6600574aMem
namespace Go.Proofs
open Go.Shelf
def Try.laysR_ren : Go.Shelf.Ren := ⟨fun | 17 => 20 | n => n, fun | 24 => 23 | n => n, fun | n => n⟩
theorem Try.laysR17 : Go.Proofs.Lays2.n17 Try.prog Try.laysR_ren := {
  mixed := by kernel_rfl
  f17 := Try.func20.trans (congrArg some (by kernel_rfl))
  t0 := Try.underlying0
  a0 := Try.isAgg0
  z0 := Try.sizeOf0
  v0 := Try.zeroValue0
  t3 := Try.underlying3
  a3 := Try.isAgg3
  z3 := Try.sizeOf3
  v3 := Try.zeroValue3
  t4 := Try.underlying4
  a4 := Try.isAgg4
  z4 := Try.sizeOf4
  v4 := Try.zeroValue4
  t9 := Try.underlying9
  a9 := Try.isAgg9
  z9 := Try.sizeOf9
  v9 := Try.zeroValue9
  t24 := Try.underlying23
  a24 := Try.isAgg23
  z24 := Try.sizeOf23
  v24 := Try.zeroValue23 }
end Go.Proofs
namespace Go.Proofs.Qxb6600574a
open Go.RowKit Go.Sort

theorem enc_of (x : ByteArray) : encStr x.data.toList = .string x := by
  cases x; simp [encStr]

theorem reverse_que {w : World} {b : Nat} {v : Value} {xs : List ByteArray} (h : Que w b v xs) (hx : xs ≠ []) :
    Calls Try.prog 20 #[v] w fun e w' => e = .returned (.tuple #[]) ∧ Que w' b v xs.reverse ∧ w.grownBy w' (some b) := by
  obtain ⟨ao, off, cap, rfl, h1, h2, h3, h4, h5⟩ := h
  have hp : 0 < xs.length := List.length_pos_iff.2 hx
  obtain ⟨rfl, hb⟩ := h3 (by omega)
  have hH : Holds encStr w b off (xs.map fun x => x.data.toList).toArray := by
    intro j hj
    have hj' : j < xs.length := by simpa using hj
    have hc := h4 j _ (List.getElem?_eq_getElem hj')
    refine ⟨?_, (h5 j (by omega)).2⟩
    rw [hc, getElem!_pos (xs.map fun x => x.data.toList).toArray j hj]
    simp only [List.getElem_toArray, List.getElem_map]
  have := Any.slices_Reverse_string Try.laysR17 b off cap (xs.map fun x => x.data.toList) w hH (by unfold maxLen at h2; simp; omega)
  rw [List.length_map] at this
  refine Calls.mono this ?_
  rintro e w' ⟨he, n, rfl⟩
  have hrev : (xs.map fun x => x.data.toList).reverse = xs.reverse.map fun x => x.data.toList := by simp
  rw [hrev]
  have hH' : Holds encStr (Sort.ahead w n) b off (xs.map fun x => x.data.toList).toArray := hH
  have hR := holds_putRow encStr (Sort.ahead w n) b off _ (xs.reverse.map fun x => x.data.toList).toArray hH' (by simp)
  have hlen : xs.reverse.length = xs.length := by simp
  refine ⟨he, ⟨_, off, cap, by rw [hlen], by omega, h2, fun _ => ⟨rfl, by simpa using hb⟩, fun j u hu => ?_, fun j hj => ?_⟩, ⟨rfl, rfl, rfl, by simp [Sort.ahead], fun k hk hne => ?_⟩⟩
  · have hj : j < xs.reverse.length := (List.getElem?_eq_some_iff.1 hu).1
    have hj2 : j < (xs.reverse.map fun x => x.data.toList).toArray.size := by simpa using hj
    have hc := (hR j hj2).1
    rw [hc, getElem!_pos (xs.reverse.map fun x => x.data.toList).toArray j hj2]
    simp only [List.getElem_toArray, List.getElem_map]
    rw [enc_of]
    have : xs.reverse[j] = u := (List.getElem?_eq_some_iff.1 hu).2
    rw [this]
  · refine ⟨?_, by rw [frozen?_putRow]; exact (h5 j hj).2⟩
    by_cases hl : j < xs.reverse.length
    · have hj2 : j < (xs.reverse.map fun x => x.data.toList).toArray.size := by simpa using hl
      rw [(hR j hj2).1]
      rfl
    · rw [cell?_putRow_other _ _ _ _ _ _ (.inr (.inr (by simp at hl ⊢; exact hl)))]
      exact (h5 j hj).1
  · have : b ≠ k := fun e => hne (by rw [e])
    simp [putRow, mapBlock, Sort.ahead, Array.getElem?_modify, this]
end Go.Proofs.Qxb6600574a
