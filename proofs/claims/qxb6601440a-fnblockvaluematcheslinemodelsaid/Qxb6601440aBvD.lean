/-
  Contracts for the block value laws: appendFold, bvLastContent.
-/
import Derived.Test.Qxb6601440aBvC
namespace Go.Proofs.Qxb6601440a.Bv
open Go.RowKit
set_option linter.unusedVariables false

def foldL (k : Nat) : List Int := if k = 0 then [32] else List.replicate k 10

set_option maxHeartbeats 400000 in
theorem fold_any (B : Nat) (v : Value) (xs : List Int) (k : Nat) (w : World) (hB : B ≤ w.heap.size) (hk : k ≤ 4194304) (hx : xs.length ≤ 4194304) (ho : Own w B v xs) :
    Calls Try.prog 41 #[v, .int .i64 k] w fun e w' => AppP B w (xs ++ foldL k) e w' := by
  obtain ⟨i0, hi, hz0, hz1, hz2⟩ := info_parts info5
  have HO := hide ho
  clear ho
  by_cases h0 : k = 0
  · subst h0
    go_enter Try.func41, Try.ntmps41
    go_wp2_with (at_builtin; refine wpList_append_own _ rfl _ _ 38 rfl B 5 i0 (.int .u8 0) 1 1 Try.underlying38 hi hz0 hz1 hz2 rfl (by decide) _ _ _ rfl ((unhide HO).alloc _) ⟨w.heap.size, 0, none⟩ 1 1 [.int .u8 32] rfl rfl (one_cell _) ?c2 ?c3 ?c4 ?c5 ?_)
    case c2 => intro u hu; simp at hu; subst hu; rfl
    case c3 => simp [maxLen]; omega
    case c4 => simp; omega
    case c5 => simp; omega
    · intro v' w1 hown' hgrow _
      have R1 : Hid (Own w1 B v' (xs ++ [32])) := Own.step (xs := xs) (ys := [32]) hown' rfl
      have R2 : Hid (St B w w1) := ((St.refl B w).alloc hB _).trans (St.grown ((unhide HO).alloc _) (by simp; omega) hgrow)
      clear hown' hgrow
      go_wp2
      go_ret
      exact ⟨_, rfl, unhide R1, unhide R2⟩
  · have hk0 : ((k : Int) == 0) = false := by rw [beq_eq_false_iff_ne]; omega
    have ef : foldL k = List.replicate k 10 := if_neg h0
    rw [ef]
    clear ef
    go_enter Try.func41, Try.ntmps41
    go_wp2
    go_loopw [0, 11] (fun v i wr => ∃ j : Nat, j ≤ k ∧ i = .int .i64 j ∧ Own wr B v (xs ++ List.replicate j 10) ∧ St B w wr) (fun _ i _ => k - (intOf i).toNat)
    case atStart => exact ⟨0, by omega, rfl, by simpa using unhide HO, St.refl _ _⟩
    case round =>
      obtain ⟨j, hj, rfl, hown, hst⟩ := hrel
      by_cases hlt : j < k
      · have hBr : B ≤ wr.heap.size := Nat.le_trans hB hst.1.size
        generalize hys : xs ++ List.replicate j 10 = ys at hown
        have hyl : ys.length ≤ 9999999 := by rw [← hys]; simp; omega
        have HYS := hide hys
        have HOW := hide hown
        have HST := hide hst
        clear hown hst hys
        go_wp2_with (at_builtin; refine wpList_append_own _ rfl _ _ 38 rfl B 5 i0 (.int .u8 0) 1 1 Try.underlying38 hi hz0 hz1 hz2 rfl (by decide) _ _ _ rfl ((unhide HOW).alloc _) ⟨wr.heap.size, 0, none⟩ 1 1 [.int .u8 10] rfl rfl (one_cell _) ?c2b ?c3b ?c4b ?c5b ?_)
        case c2b => intro u hu; simp at hu; subst hu; rfl
        case c3b => simp [maxLen]; omega
        case c4b => simp; omega
        case c5b => simp; omega
        · intro v' w1 hown' hgrow _
          have R1 : Hid (Own w1 B v' (xs ++ List.replicate (j + 1) 10)) := by
            have := Own.step (xs := ys) (ys := [10]) hown' rfl
            rw [← unhide HYS, List.append_assoc, ← List.replicate_succ'] at this
            exact this
          have R2 : Hid (St B w w1) := ((unhide HST).alloc hBr _).trans (St.grown ((unhide HOW).alloc _) (by simp; omega) hgrow)
          clear hown' hgrow
          go_wp2
          go_roundw
          case rel => exact ⟨j + 1, by omega, by go_num, unhide R1, unhide R2⟩
          case measure => simp [intOf]; omega
      · have hjk : j = k := by omega
        subst hjk
        go_wp2
        go_ret
        exact ⟨_, rfl, hown, hst⟩

/-- The index of the last line that holds content, -1 where none does. -/
def lastC (E : Nat → Bool) : Nat → Int
  | 0 => -1
  | n + 1 => if E n = true then lastC E n else n
theorem lastC_bd (E : Nat → Bool) (n : Nat) : -1 ≤ lastC E n ∧ lastC E n < n := by
  induction n with
  | zero => exact ⟨by show (-1 : Int) ≤ -1; omega, by show (-1 : Int) < ((0 : Nat) : Int); omega⟩
  | succ n ih =>
    unfold lastC
    split <;> omega

set_option maxHeartbeats 400000 in
theorem last_any (a : Option Addr) (n cap : Nat) (E : Nat → Bool) (w : World) (hl : n ≤ 65536) (hf : FL w a n E) :
    Calls Try.prog 18 #[.slice a n cap] w fun e w' => e = .returned (.int .i64 (lastC E n)) ∧ w' = w := by
  have hc := hf.1
  have hx := hf.2
  clear hf
  go_enter Try.func18, Try.ntmps18
  go_wp2
  go_loop [2, 3] (fun t2 i => ∃ k : Nat, k ≤ n ∧ t2 = .int .i64 0 ∧ i = .int .i64 ((k : Int) - 1) ∧ Hid (lastC E n = lastC E k)) (fun _ i => (intOf i + 1).toNat)
  case atStart => exact ⟨n, by omega, rfl, rfl, rfl⟩
  case round =>
    obtain ⟨k, hk, rfl, rfl, hlast⟩ := hrel
    cases k with
    | zero =>
      clear hc hx
      go_wp2
      go_ret
      exact ⟨ret_int (unhide hlast).symm, rfl⟩
    | succ q =>
      obtain ⟨x, rfl⟩ : ∃ x, a = some x := by
        cases a with
        | none => exact absurd (hc rfl) (by omega)
        | some x => exact ⟨x, rfl⟩
      have hcy := hx x rfl q (by omega)
      clear hc hx
      rw [show (((q + 1 : Nat) : Int) - 1) = (q : Int) by omega]
      cases hE : E q
      · have HE := hide hE
        rw [hE] at hcy
        clear hE
        go_wp2
        go_ret
        refine ⟨ret_int ?_, rfl⟩
        rw [unhide hlast, lastC, if_neg (by rw [unhide HE]; simp)]
      · have HE := hide hE
        rw [hE] at hcy
        clear hE
        go_wp2
        go_round
        case rel => exact ⟨q, by omega, rfl, rfl, by show lastC E n = lastC E q; rw [unhide hlast, lastC, if_pos (unhide HE)]⟩
        case measure => simp [intOf]
end Go.Proofs.Qxb6601440a.Bv
