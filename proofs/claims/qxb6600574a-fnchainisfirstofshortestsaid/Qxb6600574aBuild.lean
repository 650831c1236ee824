/-
  buildAbove (11): its walk.
-/
import Derived.Test.Qxb6600574aAbv
import Derived.Deep.RegionLaw
namespace Go.Proofs.Qxb6600574a
open Go.RowKit

theorem step_append_run {P : Program} {ops : Array Oper} {o : Oper} {a : Act} {w : World} {K : Act → World → Prop} {Q : Exit → Act → World → Prop} {E : Prop}
    (hg : o.guard = none) (s x : Operand) (t : TypeId) (hop : o.op = Op.call { callee := Callee.builtin Builtin.append, args := #[s, x], argTypes := #[t, t] })
    (v0 vx v' : Value) (w' : World) (hs : a.eval s = v0) (hx : a.eval x = vx) (hrun : (Builtin.append_ #[t, t] o.type #[v0, vx]).run P w = .ok v' w') (hK : K (a.put o.dst v') w') :
    if Region.wanted o (yielded ops a.tmps) = true then Oper.wp P o a w K Q else E := by
  have hw : Region.wanted o (yielded ops a.tmps) = true := by simp [Region.wanted, hg]
  rw [if_pos hw]
  unfold Oper.wp
  simp [execOp, hop, resolve, invoke, builtin, hs, hx, hrun, Result.andThen]
  exact hK

def fromK (F : Nat → ByteArray) (k : Nat) (s : ByteArray) : Prop := ∃ i, i < k ∧ F i = s

theorem fromK_succ (F : Nat → ByteArray) (k : Nat) (s : ByteArray) : (fromK F k s ∨ s = F k) ↔ fromK F (k + 1) s := by
  constructor
  · rintro (⟨i, hi, e⟩ | e)
    · exact ⟨i, by omega, e⟩
    · exact ⟨k, by omega, e.symm⟩
  · rintro ⟨i, hi, e⟩
    by_cases h : i = k
    · subst h; exact .inr e.symm
    · exact .inl ⟨i, by omega, e⟩

set_option maxHeartbeats 4000000 in
theorem build_any (w : World) (a0 : Option Addr) (N c0 : Nat) (F T : Nat → ByteArray) (h : LIn w a0 N F T) (a1 : Option Addr) (M c1 : Nat) (A : Nat → ByteArray) (h1 : SIn w a1 M A) (hN : N ≤ 4096) (hM : M ≤ 4096) :
    Calls Try.prog 11 #[.slice a0 N c0, .slice a1 M c1] w fun e w' => ∃ bm, e = .returned (.map (some bm)) ∧ Abv w w' bm (declB N F T M A) (adj F T N) 12288 := by
  have hmk := @run_makeMap Try.prog
  go_enter Try.func11, Try.ntmps11
  go_wp2
  clear hmk
  go_loopw [6] (fun i wr => ∃ k : Nat, k ≤ N ∧ i = .int .i64 k ∧ Abv w wr w.heap.size (fromK F k) (adj F T k) k) (fun i _ => N - (intOf i).toNat)
  case atStart => exact ⟨0, Nat.zero_le _, rfl, (abv_made w).congr (fun s => ⟨fun h => h.elim, fun ⟨i, hi, _⟩ => by omega⟩) (fun s => by simp [adj]) (Nat.le_refl _)⟩
  case round =>
    obtain ⟨k, hk, rfl, hab⟩ := hrel
    by_cases hlt : k < N
    · obtain ⟨b, off, rfl, hc⟩ := h.outer (by omega)
      have hb := hab.below
      have hbl : b < w.heap.size := World.block_lt_of_cell? _ _ (hc k hlt).1
      have g0 : wr.cell? ⟨b, off + k * 2, none⟩ = some (.string (F k)) := (hb.cell (p := ⟨b, off + k * 2, none⟩) hbl).trans (hc k hlt).1
      have g1 : wr.cell? ⟨b, off + k * 2 + 1, none⟩ = some (.string (T k)) := (hb.cell (p := ⟨b, off + k * 2 + 1, none⟩) hbl).trans (hc k hlt).2
      have l1 : (k : Int) < (N : Int) := by omega
      obtain ⟨v0, v', w1, w2, e1, e2, e3, hab'⟩ := hab.step (s := F k) (x := T k) (h.big k hlt).1 (by omega) (by have := adj_length F T k (F k); omega)
      have e4 := e1 _ (Below.refl _ _).drew
      have e5 : ∀ o, (Instr.lookup 30 (.map (some w.heap.size)) (.string (F k)) false).run Try.prog (wr.alloc o).drew = .ok v0 (wr.alloc o).drew := fun o => e1 _ ((Below.refl _ _).alloc (Nat.le_refl _) o).drew
      have e6 : Hid ( (Builtin.append_ #[23, 23] 23 #[v0, .slice (some ⟨wr.heap.size, 0, none⟩) 1 1]).run Try.prog (wr.alloc (.cells #[.string (T k)] 9)).drew = .ok v' w1) := e2
      have hbs : b < wr.heap.size := Nat.lt_of_lt_of_le hbl hb.size
      clear e1 e2 hc h h1 hb
      go_wp2_with fail
      go_region_law (refine step_append_run rfl (.tmp 30) (.tmp 36) 23 rfl v0 (.slice (some ⟨wr.heap.size, 0, none⟩) 1 1) v' w1 (by simp [Act.eval]) (by simp [Act.eval]) e6.out ?_)
      all_goals
        go_wp2
        go_roundw
        case rel => exact ⟨k + 1, by omega, by go_num, hab'.congr (fun s => fromK_succ F k s) (fun s => (adj_succ F T k s).symm) (Nat.le_refl _)⟩
        case measure => simp [intOf]; omega
    · obtain rfl : k = N := by omega
      clear hlt hk
      have H1 : Hid (SIn w a1 M A) := h1
      clear h1
      go_wp2_with fail
      go_loopw [8] (fun i wr => ∃ m : Nat, m ≤ k ∧ i = .int .i64 m ∧ Abv w wr w.heap.size (fun s => fromK F k s ∨ fromK T m s) (adj F T k) (k + m)) (fun i _ => k - (intOf i).toNat)
      case atStart => exact ⟨0, Nat.zero_le _, rfl, hab.congr (fun s => ⟨.inl, fun h => h.elim id (fun ⟨i, hi, _⟩ => by omega)⟩) (fun s => rfl) (by omega)⟩
      case round =>
        clear hab
        obtain ⟨m, hm, rfl, hab⟩ := hrel
        by_cases hlt : m < k
        · obtain ⟨b, off, rfl, hc⟩ := h.outer (by omega)
          have hb := hab.below
          have hbl : b < w.heap.size := World.block_lt_of_cell? _ _ (hc m hlt).1
          have g1 : wr.cell? ⟨b, off + m * 2 + 1, none⟩ = some (.string (T m)) := (hb.cell (p := ⟨b, off + m * 2 + 1, none⟩) hbl).trans (hc m hlt).2
          have l1 : (m : Int) < (k : Int) := by omega
          have hTm := (h.big m hlt).2
          obtain ⟨v, f1, f2⟩ := hab.look_ok (s := T m) hTm
          clear hc h hb
          by_cases hd : fromK F k (T m) ∨ fromK T m (T m)
          · have f1 := f1 hd
            have Hd : Hid (fromK F k (T m) ∨ fromK T m (T m)) := hd
            clear f2 hd
            go_wp2_with fail
            go_roundw
            case rel => exact ⟨m + 1, by omega, by go_num, hab.congr (fun s => by
              rw [← fromK_succ T m s]
              exact ⟨fun h => h.elim .inl (fun h => .inr (.inl h)), fun h => h.elim .inl (fun h => h.elim .inr (fun e => by rw [e]; exact Hd.out))⟩) (fun s => rfl) (by omega)⟩
            case measure => simp [intOf]; omega
          · have f2 := f2 hd
            obtain ⟨w2, e3, hab'⟩ := hab.decl (s := T m) hTm hd (by omega)
            clear f1 hd hab
            go_wp2_with fail
            go_roundw
            case rel => exact ⟨m + 1, by omega, by go_num, hab'.congr (fun s => by
              rw [← fromK_succ T m s]
              exact ⟨fun h => h.elim (fun h => h.elim .inl (fun h => .inr (.inl h))) (fun h => .inr (.inr h)), fun h => h.elim (fun h => .inl (.inl h)) (fun h => h.elim (fun h => .inl (.inr h)) .inr)⟩) (fun s => rfl) (by omega)⟩
            case measure => simp [intOf]; omega
        · obtain rfl : m = k := by omega
          clear hlt hm h
          have h1 := H1.out
          go_wp2_with fail
          go_loopw [11] (fun i wr => ∃ j : Nat, j ≤ M ∧ i = .int .i64 j ∧ Abv w wr w.heap.size (fun s => (fromK F m s ∨ fromK T m s) ∨ fromK A j s) (adj F T m) (m + m + j)) (fun i _ => M - (intOf i).toNat)
          case atStart => exact ⟨0, Nat.zero_le _, rfl, hab.congr (fun s => ⟨.inl, fun h => h.elim id (fun ⟨i, hi, _⟩ => by omega)⟩) (fun s => rfl) (by omega)⟩
          case round =>
            clear hab
            obtain ⟨j, hj, rfl, hab⟩ := hrel
            by_cases hlt : j < M
            · obtain ⟨b, off, rfl, hc⟩ := h1.outer (by omega)
              have hb := hab.below
              have hbl : b < w.heap.size := World.block_lt_of_cell? _ _ (hc j hlt)
              have g1 : wr.cell? ⟨b, off + j, none⟩ = some (.string (A j)) := (hb.cell (p := ⟨b, off + j, none⟩) hbl).trans (hc j hlt)
              have l1 : (j : Int) < (M : Int) := by omega
              have hTm := h1.big j hlt
              obtain ⟨v, f1, f2⟩ := hab.look_ok (s := A j) hTm
              clear hc h1 hb
              by_cases hd : (fromK F m (A j) ∨ fromK T m (A j)) ∨ fromK A j (A j)
              · have f1 := f1 hd
                have Hd : Hid ((fromK F m (A j) ∨ fromK T m (A j)) ∨ fromK A j (A j)) := hd
                clear f2 hd
                go_wp2_with fail
                go_roundw
                case rel => exact ⟨j + 1, by omega, by go_num, hab.congr (fun s => by
                  rw [← fromK_succ A j s]
                  exact ⟨fun h => h.elim .inl (fun h => .inr (.inl h)), fun h => h.elim .inl (fun h => h.elim .inr (fun e => by rw [e]; exact Hd.out))⟩) (fun s => rfl) (by omega)⟩
                case measure => simp [intOf]; omega
              · have f2 := f2 hd
                obtain ⟨w2, e3, hab'⟩ := hab.decl (s := A j) hTm hd (by omega)
                clear f1 hd hab
                go_wp2_with fail
                go_roundw
                case rel => exact ⟨j + 1, by omega, by go_num, hab'.congr (fun s => by
                  rw [← fromK_succ A j s]
                  exact ⟨fun h => h.elim (fun h => h.elim .inl (fun h => .inr (.inl h))) (fun h => .inr (.inr h)), fun h => h.elim (fun h => .inl (.inl h)) (fun h => h.elim (fun h => .inl (.inr h)) .inr)⟩) (fun s => rfl) (by omega)⟩
                case measure => simp [intOf]; omega
            · obtain rfl : j = M := by omega
              clear h1
              go_wp2_with fail
              go_ret
              refine ⟨_, rfl, hab.congr (fun s => ?_) (fun s => rfl) (by omega)⟩
              constructor
              · rintro ((⟨i, hi, e⟩ | ⟨i, hi, e⟩) | ⟨i, hi, e⟩)
                · exact .inl ⟨i, hi, .inl e⟩
                · exact .inl ⟨i, hi, .inr e⟩
                · exact .inr ⟨i, hi, e⟩
              · rintro (⟨i, hi, e | e⟩ | ⟨i, hi, e⟩)
                · exact .inl (.inl ⟨i, hi, e⟩)
                · exact .inl (.inr ⟨i, hi, e⟩)
                · exact .inr ⟨i, hi, e⟩
end Go.Proofs.Qxb6600574a
