/-
  Leaf contracts for the uriChar law: isHex, wordChar, ifDigit, ucSingle.
-/
import Derived.Test.Qxb6601440aRows
import Derived.WalkKit
import Derived.WalkSpells
import Derived.ProofKit
import Derived.Deep.OwnRows
namespace Go.Proofs.Qxb6601440a
open Go.RowKit

theorem ret_int {k : IntKind} {a b : Int} (h : a = b) : Ending.returned (.int k a) = .returned (.int k b) := by rw [h]
theorem ret_bool {a b : Bool} (h : a = b) : Ending.returned (.bool a) = .returned (.bool b) := by rw [h]

def hexB (n : Int) : Bool := decide ((48 ≤ n ∧ n ≤ 57) ∨ (97 ≤ n ∧ n ≤ 102) ∨ (65 ≤ n ∧ n ≤ 70))
def wordB (n : Int) : Bool := decide ((97 ≤ n ∧ n ≤ 122) ∨ (65 ≤ n ∧ n ≤ 90) ∨ (48 ≤ n ∧ n ≤ 57) ∨ n = 45)
def digV (n : Int) : Int := if 48 ≤ n ∧ n ≤ 57 then n - 48 else if 97 ≤ n ∧ n ≤ 102 then n - 87 else if 65 ≤ n ∧ n ≤ 70 then n - 55 else -1

theorem isHex_any (n : Int) (w : World) : Calls Try.prog 43 #[.int .u8 n] w fun e w' => e = .returned (.bool (hexB n)) ∧ w' = w := by
  go_enter Try.func43, Try.ntmps43
  go_wp2
  all_goals
    go_ret
    refine ⟨ret_bool ?_, rfl⟩
    unfold hexB
    rw [Bool.eq_iff_iff]
    simp
    omega

theorem wordChar_any (n : Int) (w : World) : Calls Try.prog 44 #[.int .u8 n] w fun e w' => e = .returned (.bool (wordB n)) ∧ w' = w := by
  go_enter Try.func44, Try.ntmps44
  go_wp2
  all_goals
    go_ret
    refine ⟨ret_bool ?_, rfl⟩
    unfold wordB
    rw [Bool.eq_iff_iff]
    simp
    omega

def dl (j : Nat) : Int := if j < 10 then 48 + j else 87 + j
def du (j : Nat) : Int := if j < 10 then 48 + j else 55 + j
theorem lower_all : ∀ k : Fin 16, ((({ data := #[48, 49, 50, 51, 52, 53, 54, 55, 56, 57, 97, 98, 99, 100, 101, 102] } : ByteArray)[k.val]'(k.isLt)).toNat : Int) = dl k.val := by decide
theorem upper_all : ∀ k : Fin 16, ((({ data := #[48, 49, 50, 51, 52, 53, 54, 55, 56, 57, 65, 66, 67, 68, 69, 70] } : ByteArray)[k.val]'(k.isLt)).toNat : Int) = du k.val := by decide
theorem lower_at (k : Nat) (h : k < 16) : ((({ data := #[48, 49, 50, 51, 52, 53, 54, 55, 56, 57, 97, 98, 99, 100, 101, 102] } : ByteArray)[k]'(h)).toNat : Int) = dl k := lower_all ⟨k, h⟩
theorem upper_at (k : Nat) (h : k < 16) : ((({ data := #[48, 49, 50, 51, 52, 53, 54, 55, 56, 57, 65, 66, 67, 68, 69, 70] } : ByteArray)[k]'(h)).toNat : Int) = du k := upper_all ⟨k, h⟩
theorem digV_dl (k : Nat) (h : k < 16) (n : Int) (e : dl k = n) : digV n = k := by
  subst e; unfold dl digV; split <;> split <;> omega
theorem digV_du (k : Nat) (h : k < 16) (n : Int) (e : du k = n) : digV n = k := by
  subst e; unfold du digV; split <;> split <;> omega
theorem digV_no (n : Int) (h : ∀ j : Nat, j < 16 → ¬ dl j = n ∧ ¬ du j = n) : digV n = -1 := by
  have h1 : ¬ (48 ≤ n ∧ n ≤ 57) := fun ⟨a, b⟩ => (h (n - 48).toNat (by omega)).1 (by unfold dl; rw [if_pos (by omega)]; omega)
  have h2 : ¬ (97 ≤ n ∧ n ≤ 102) := fun ⟨a, b⟩ => (h (n - 87).toNat (by omega)).1 (by unfold dl; rw [if_neg (by omega)]; omega)
  have h3 : ¬ (65 ≤ n ∧ n ≤ 70) := fun ⟨a, b⟩ => (h (n - 55).toNat (by omega)).2 (by unfold du; rw [if_neg (by omega)]; omega)
  unfold digV
  rw [if_neg h1, if_neg h2, if_neg h3]

set_option maxHeartbeats 400000 in
theorem ifDigit_any (n : Int) (w : World) : Calls Try.prog 30 #[.int .u8 n] w fun e w' => e = .returned (.int .i64 (digV n)) ∧ w' = w := by
  go_enter Try.func30, Try.ntmps30
  go_wp2
  go_loop [3] (fun i => ∃ k : Nat, k ≤ 16 ∧ i = .int .i64 k ∧ Hid (∀ j : Nat, j < k → ¬ dl j = n ∧ ¬ du j = n)) (fun i => 16 - (intOf i).toNat)
  case atStart => exact ⟨0, by omega, rfl, fun j hj => by omega⟩
  case round =>
    obtain ⟨k, hk, rfl, hno⟩ := hrel
    by_cases hlt : k < 16
    · go_wp2
      · go_ret
        have h1 : ((({ data := #[48, 49, 50, 51, 52, 53, 54, 55, 56, 57, 97, 98, 99, 100, 101, 102] } : ByteArray)[k]'(hlt)).toNat : Int) = n := by assumption
        rw [lower_at k hlt] at h1
        exact ⟨ret_int (digV_dl k hlt n h1).symm, rfl⟩
      · go_ret
        rename_i _ _ hor _
        refine ⟨ret_int ?_, rfl⟩
        simp only [beq_iff_eq, lower_at k hlt, upper_at k hlt] at hor
        rcases hor with h | h
        · exact (digV_dl k hlt n h).symm
        · exact (digV_du k hlt n h).symm
      · rename_i hand
        simp only [beq_eq_false_iff_ne, lower_at k hlt, upper_at k hlt] at hand
        go_round
        case rel =>
          refine ⟨k + 1, by omega, by go_num, fun j hj => ?_⟩
          by_cases e : j = k
          · subst e; exact hand
          · exact hno.out j (by omega)
        case measure => simp [intOf]; omega
    · go_wp2
      go_ret
      have : k = 16 := by omega
      subst this
      exact ⟨ret_int (digV_no n hno.out).symm, rfl⟩

def singles : List Nat := [97, 98, 99, 100, 101, 102, 103, 104, 105, 106, 107, 108, 109, 110, 111, 112, 113, 114, 115, 116, 117, 118, 119, 120, 121, 122, 65, 66, 67, 68, 69, 70, 71, 72, 73, 74, 75, 76, 77, 78, 79, 80, 81, 82, 83, 84, 85, 86, 87, 88, 89, 90, 48, 49, 50, 51, 52, 53, 54, 55, 56, 57, 45, 35, 59, 47, 63, 58, 64, 38, 61, 43, 36, 44, 95, 46, 33, 126, 42, 39, 40, 41, 91, 93]

theorem singles_all : ∀ k : Fin 84, ((({ data := #[97, 98, 99, 100, 101, 102, 103, 104, 105, 106, 107, 108, 109, 110, 111, 112, 113, 114, 115, 116, 117, 118, 119, 120, 121, 122, 65, 66, 67, 68, 69, 70, 71, 72, 73, 74, 75, 76, 77, 78, 79, 80, 81, 82, 83, 84, 85, 86, 87, 88, 89, 90, 48, 49, 50, 51, 52, 53, 54, 55, 56, 57, 45, 35, 59, 47, 63, 58, 64, 38, 61, 43, 36, 44, 95, 46, 33, 126, 42, 39, 40, 41, 91, 93] } : ByteArray)[k.val]'(k.isLt)).toNat : Int) = (singles.getD k.val 0 : Int) := by decide +kernel
theorem singles_at (k : Nat) (h : k < 84) : ((({ data := #[97, 98, 99, 100, 101, 102, 103, 104, 105, 106, 107, 108, 109, 110, 111, 112, 113, 114, 115, 116, 117, 118, 119, 120, 121, 122, 65, 66, 67, 68, 69, 70, 71, 72, 73, 74, 75, 76, 77, 78, 79, 80, 81, 82, 83, 84, 85, 86, 87, 88, 89, 90, 48, 49, 50, 51, 52, 53, 54, 55, 56, 57, 45, 35, 59, 47, 63, 58, 64, 38, 61, 43, 36, 44, 95, 46, 33, 126, 42, 39, 40, 41, 91, 93] } : ByteArray)[k]'(h)).toNat : Int) = (singles.getD k 0 : Int) := singles_all ⟨k, h⟩
theorem single_yes (k : Nat) (h : k < 84) (n : Int) (e : (singles.getD k 0 : Int) = n) : decide (n.toNat ∈ singles) = true := by
  subst e
  have : singles.getD k 0 ∈ singles := by
    rw [List.getD_eq_getElem?_getD, List.getElem?_eq_getElem (show k < singles.length from h)]
    exact List.getElem_mem _
  simpa using this
theorem single_no (n : Int) (h0 : 0 ≤ n) (h : ∀ j : Nat, j < 84 → ¬ (singles.getD j 0 : Int) = n) : decide (n.toNat ∈ singles) = false := by
  refine decide_eq_false fun hm => ?_
  obtain ⟨j, hj, e⟩ := List.getElem_of_mem hm
  refine h j hj ?_
  rw [List.getD_eq_getElem?_getD, List.getElem?_eq_getElem hj]
  show ((singles[j] : Nat) : Int) = n
  rw [e]; omega

set_option maxHeartbeats 400000 in
theorem ucSingle_any (n : Int) (h0 : 0 ≤ n) (w : World) : Calls Try.prog 31 #[.int .u8 n] w fun e w' => e = .returned (.bool (decide (n.toNat ∈ singles))) ∧ w' = w := by
  go_enter Try.func31, Try.ntmps31
  go_wp2
  go_loop [3] (fun i => ∃ k : Nat, k ≤ 84 ∧ i = .int .i64 k ∧ Hid (∀ j : Nat, j < k → ¬ (singles.getD j 0 : Int) = n)) (fun i => 84 - (intOf i).toNat)
  case atStart => exact ⟨0, by omega, rfl, fun j hj => by omega⟩
  case round =>
    obtain ⟨k, hk, rfl, hno⟩ := hrel
    by_cases hlt : k < 84
    · go_wp2
      · go_ret
        rename_i h1 _
        rw [beq_iff_eq, singles_at k hlt] at h1
        exact ⟨ret_bool (single_yes k hlt n h1).symm, rfl⟩
      · rename_i h1
        rw [beq_eq_false_iff_ne, singles_at k hlt] at h1
        go_round
        case rel =>
          refine ⟨k + 1, by omega, by go_num, fun j hj => ?_⟩
          by_cases e : j = k
          · subst e; exact h1
          · exact hno.out j (by omega)
        case measure => simp [intOf]; omega
    · go_wp2
      go_ret
      have : k = 84 := by omega
      subst this
      exact ⟨ret_bool (single_no n h0 hno.out).symm, rfl⟩
end Go.Proofs.Qxb6601440a
