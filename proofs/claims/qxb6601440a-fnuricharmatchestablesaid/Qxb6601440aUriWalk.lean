/-
  Contracts for the uriChar law: uriChar, ZZUriChar, ucClone, zzBytes.
-/
import Derived.Test.Qxb6601440aUriLeaf
namespace Go.Proofs.Qxb6601440a
open Go.RowKit

def othV (b : Int) : Int := if b = 35 ∨ b = 59 ∨ b = 47 ∨ b = 63 ∨ b = 58 ∨ b = 64 ∨ b = 38 ∨ b = 61 ∨ b = 43 ∨ b = 36 ∨ b = 44 ∨ b = 95 ∨ b = 46 ∨ b = 33 ∨ b = 126 ∨ b = 42 ∨ b = 39 ∨ b = 40 ∨ b = 41 ∨ b = 91 ∨ b = 93 then 1 else 0
set_option linter.unusedVariables false

theorem uri_out (a : Option Addr) (len cap : Nat) (i : Int) (w : World) (hl : len ≤ 1048576) (hi : (len : Int) ≤ i) :
    Calls Try.prog 39 #[.slice a len cap, .int .i64 i] w fun e w' => e = .returned (.int .i64 0) ∧ w' = w := by
  go_enter Try.func39, Try.ntmps39
  go_wp2_with fail
  go_ret
  exact ⟨rfl, rfl⟩

theorem uri_word (g len cap i : Nat) (b : Int) (w : World) (hl : len ≤ 1048576) (hi : i < len) (hc : w.cell? ⟨g, i, none⟩ = some (.int .u8 b)) (hb : wordB b = true) :
    Calls Try.prog 39 #[.slice (some ⟨g, 0, none⟩) len cap, .int .i64 i] w fun e w' => e = .returned (.int .i64 1) ∧ w' = w := by
  go_enter Try.func39, Try.ntmps39
  go_wp2_with (go_at_call 44; refine (wordChar_any _ _).mono ?_; rintro e w' ⟨rfl, rfl⟩)
  go_ret
  exact ⟨rfl, rfl⟩

theorem word37 : wordB 37 = false := by decide
theorem uri_pct_short (g len cap i : Nat) (w : World) (hl : len ≤ 1048576) (hi : i < len) (hc : w.cell? ⟨g, i, none⟩ = some (.int .u8 37)) (h2 : len ≤ i + 2) :
    Calls Try.prog 39 #[.slice (some ⟨g, 0, none⟩) len cap, .int .i64 i] w fun e w' => e = .returned (.int .i64 0) ∧ w' = w := by
  have h37 := word37
  go_enter Try.func39, Try.ntmps39
  go_wp2_with (first | (go_at_call 44; refine (wordChar_any _ _).mono ?_; rintro e w' ⟨rfl, rfl⟩) | (go_at_call 43; refine (isHex_any _ _).mono ?_; rintro e w' ⟨rfl, rfl⟩))
  go_ret
  exact ⟨rfl, rfl⟩

theorem uri_pct (g len cap i : Nat) (b1 b2 : Int) (w : World) (hl : len ≤ 1048576) (hi : i + 2 < len) (hc : w.cell? ⟨g, i, none⟩ = some (.int .u8 37))
    (hc1 : w.cell? ⟨g, i + 1, none⟩ = some (.int .u8 b1)) (hc2 : w.cell? ⟨g, i + 2, none⟩ = some (.int .u8 b2)) :
    Calls Try.prog 39 #[.slice (some ⟨g, 0, none⟩) len cap, .int .i64 i] w fun e w' => e = .returned (.int .i64 (if hexB b1 && hexB b2 then 3 else 0)) ∧ w' = w := by
  have h37 := word37
  cases h1 : hexB b1
  · go_enter Try.func39, Try.ntmps39
    go_wp2_with (first | (go_at_call 44; refine (wordChar_any _ _).mono ?_; rintro e w' ⟨rfl, rfl⟩) | (go_at_call 43; refine (isHex_any _ _).mono ?_; rintro e w' ⟨rfl, rfl⟩))
    go_ret
    exact ⟨rfl, rfl⟩
  · cases h2 : hexB b2
    · go_enter Try.func39, Try.ntmps39
      go_wp2_with (first | (go_at_call 44; refine (wordChar_any _ _).mono ?_; rintro e w' ⟨rfl, rfl⟩) | (go_at_call 43; refine (isHex_any _ _).mono ?_; rintro e w' ⟨rfl, rfl⟩))
      go_ret
      exact ⟨rfl, rfl⟩
    · go_enter Try.func39, Try.ntmps39
      go_wp2_with (first | (go_at_call 44; refine (wordChar_any _ _).mono ?_; rintro e w' ⟨rfl, rfl⟩) | (go_at_call 43; refine (isHex_any _ _).mono ?_; rintro e w' ⟨rfl, rfl⟩))
      go_ret
      exact ⟨rfl, rfl⟩

set_option maxHeartbeats 800000 in
theorem uri_other (g len cap i : Nat) (b : Int) (w : World) (hl : len ≤ 1048576) (hi : i < len) (hc : w.cell? ⟨g, i, none⟩ = some (.int .u8 b)) (hb : wordB b = false) (h37 : (b == 37) = false) :
    Calls Try.prog 39 #[.slice (some ⟨g, 0, none⟩) len cap, .int .i64 i] w fun e w' => e = .returned (.int .i64 (othV b)) ∧ w' = w := by
  go_enter Try.func39, Try.ntmps39
  go_wp2_with (go_at_call 44; refine (wordChar_any _ _).mono ?_; rintro e w' ⟨rfl, rfl⟩)
  all_goals
    go_ret
    refine ⟨ret_int ?_, rfl⟩
    simp only [beq_iff_eq, beq_eq_false_iff_ne] at *
    unfold othV
    first
      | rw [if_pos (by omega)]
      | rw [if_neg (by omega)]

theorem zzBytes_any (a : Option Addr) (len cap : Nat) (i : Int) (w : World) (hl : len ≤ maxLen) :
    Calls Try.prog 27 #[.slice a len cap, .int .i64 i] w fun e w' => e = .returned (.bool (decide (len ≤ 1048576))) ∧ w' = w := by
  unfold maxLen at hl
  by_cases h : len ≤ 1048576
  · go_enter Try.func27, Try.ntmps27
    go_wp2
    go_ret
    exact ⟨ret_bool (by simp [h]), rfl⟩
  · go_enter Try.func27, Try.ntmps27
    go_wp2
    go_ret
    exact ⟨ret_bool (by simp [h]), rfl⟩

theorem Try.info5 : (Try.prog.info? 5).map (fun i => (i.zero, i.size, i.bytes)) = some (some (.int .u8 0), 1, 1) := by kernel_rfl

theorem clone_nil (w : World) : Calls Try.prog 28 #[.slice none 0 0] w fun e w' => e = .returned (.slice none 0 0) ∧ w' = w := by
  have q38 : ∀ (w : World) (a : Option Addr) (n c n' c' : Nat), (binOp .eql 38 (.slice a n c) (.slice none n' c')).run Try.prog w = .ok (.bool a.isNone) w := fun w a n c n' c' => Lib.run_eql_slice_nil w _ _ a n c n' c' Try.underlying38
  go_enter Try.func28, Try.ntmps28
  go_wp2
  go_ret
  exact ⟨rfl, rfl⟩

theorem row_step {w : World} {b t n k : Nat} {z : Nat → Value} {z0 : Value} (h : w.rowIs b t n (fun j => if j < k then z j else z0)) :
    (w.setCell ⟨b, k, none⟩ (z k)).rowIs b t n (fun j => if j < k + 1 then z j else z0) := by
  refine (h.set k (z k)).congr fun j hj => ?_
  by_cases e : j = k
  · subst e; simp
  · by_cases h2 : j < k
    · simp [e, h2, show j < k + 1 by omega]
    · simp [e, h2, show ¬ j < k + 1 by omega]

set_option maxHeartbeats 400000 in
theorem clone_some (b off len cap : Nat) (z : Nat → Int) (w : World) (hl : len ≤ 1048576) (hc : ∀ j, j < len → w.cell? ⟨b, off + j, none⟩ = some (.int .u8 (z j))) :
    Calls Try.prog 28 #[.slice (some ⟨b, off, none⟩) len cap] w fun e w' => e = .returned (.slice (some ⟨w.heap.size, 0, none⟩) len len) ∧
      w'.rowIs w.heap.size 5 len (fun j => .int .u8 (z j)) ∧ Below w.heap.size w w' := by
  have q38 : ∀ (w : World) (a : Option Addr) (n c n' c' : Nat), (binOp .eql 38 (.slice a n c) (.slice none n' c')).run Try.prog w = .ok (.bool a.isNone) w := fun w a n c n' c' => Lib.run_eql_slice_nil w _ _ a n c n' c' Try.underlying38
  have hmk := run_make_row' (P := Try.prog) 38 5 (.int .u8 0) 1 Try.underlying38 Try.info5 rfl .i64 .i64 len (by omega) (by omega)
  have hrow := World.rowIs_made w (.int .u8 0) len 5
  have hbel : Below w.heap.size w (w.alloc (.cells (madeCells #[.int .u8 0] len) 5)) := (Below.refl _ _).alloc (Nat.le_refl _) _
  go_enter Try.func28, Try.ntmps28
  go_wp2
  go_loopw [4] (fun i wr => ∃ k : Nat, k ≤ len ∧ i = .int .i64 k ∧ wr.rowIs w.heap.size 5 len (fun j => if j < k then .int .u8 (z j) else .int .u8 0) ∧ Below w.heap.size w wr) (fun i _ => len - (intOf i).toNat)
  case atStart => exact ⟨0, by omega, rfl, hrow.congr (fun i hi => by simp), hbel⟩
  case round =>
    obtain ⟨k, hk, rfl, hrw, hb⟩ := hrel
    clear hmk hrow hbel
    by_cases hlt : k < len
    · have hck := hc k hlt
      have hbl : b < w.heap.size := World.block_lt_of_cell? _ _ hck
      have h1 : wr.cell? ⟨b, off + k, none⟩ = some (.int .u8 (z k)) := (hb.cell (by exact hbl)).trans hck
      have h2 := hrw.cell hlt
      have h3 := hrw.frozen k
      simp only [Nat.lt_irrefl, if_false] at h2
      go_wp2
      go_roundw
      case rel => exact ⟨k + 1, by omega, by go_num, row_step (z := fun j => .int .u8 (z j)) hrw, hb.setCell (Nat.le_refl _) _⟩
      case measure => simp [intOf]; omega
    · go_wp2
      go_ret
      exact ⟨rfl, hrw.congr (fun j hj => by rw [if_pos (by omega)]), hb⟩

theorem bare_clone (x : Addr) (cap : Nat) (w : World) :
    Calls Try.prog 28 #[.slice (some x) 0 cap] w fun e w' => e = .returned (.slice (some ⟨w.heap.size, 0, none⟩) 0 0) ∧ Below w.heap.size w w' := by
  have q38 : ∀ (w : World) (a : Option Addr) (n c n' c' : Nat), (binOp .eql 38 (.slice a n c) (.slice none n' c')).run Try.prog w = .ok (.bool a.isNone) w := fun w a n c n' c' => Lib.run_eql_slice_nil w _ _ a n c n' c' Try.underlying38
  have hmk : ∀ w : World, (Instr.makeSlice 38 (.int .i64 0) (.int .i64 0)).run Try.prog w = .ok (.slice (some ⟨w.heap.size, 0, none⟩) 0 0) (w.alloc (.cells (madeCells #[.int .u8 0] 0) 5)) :=
    fun w => run_make_row' (P := Try.prog) 38 5 (.int .u8 0) 1 Try.underlying38 Try.info5 rfl .i64 .i64 0 (by omega) (by omega) w
  have hbel : Below w.heap.size w (w.alloc (.cells (madeCells #[.int .u8 0] 0) 5)) := (Below.refl _ _).alloc (Nat.le_refl _) _
  go_enter Try.func28, Try.ntmps28
  go_wp2
  refine wp_loop_rounds 1 ?_
  rw [rounds_succ]
  go_wp2
  go_ret
  exact ⟨rfl, hbel⟩

/-! ZZUriChar hands uriChar on. -/
theorem zz_out (a : Option Addr) (len cap : Nat) (i : Int) (w : World) (hl : len ≤ 1048576) (hi : (len : Int) ≤ i) :
    Calls Try.prog 29 #[.slice a len cap, .int .i64 i] w fun e w' => e = .returned (.int .i64 0) ∧ w' = w := by
  go_enter Try.func29, Try.ntmps29
  go_wp2_with (go_at_call 39; refine (uri_out _ _ _ _ _ hl hi).mono ?_; rintro e w' ⟨rfl, rfl⟩)
  go_ret
  exact ⟨rfl, rfl⟩

theorem zz_of (a : Option Addr) (len cap : Nat) (i r : Int) (w : World) (h : Calls Try.prog 39 #[.slice a len cap, .int .i64 i] w fun e w' => e = .returned (.int .i64 r) ∧ w' = w) :
    Calls Try.prog 29 #[.slice a len cap, .int .i64 i] w fun e w' => e = .returned (.int .i64 r) ∧ w' = w := by
  have H : Hid _ := h
  clear h
  go_enter Try.func29, Try.ntmps29
  go_wp2_with (go_at_call 39; refine Calls.mono (Hid.out H) ?_; rintro e w1 ⟨rfl, rfl⟩)
  go_ret
  exact ⟨rfl, rfl⟩

/-! The plain law -/
theorem single_word (b : Int) (h0 : 0 ≤ b) (h1 : b ≤ 255) (hb : wordB b = true) : decide (b.toNat ∈ singles) = true := by
  have : ∀ m : Fin 256, wordB (m.val : Int) = true → decide (m.val ∈ singles) = true := by decide +kernel
  have h := this ⟨b.toNat, by omega⟩
  simp only [Int.toNat_of_nonneg h0] at h
  exact h hb
theorem single_other (b : Int) (h0 : 0 ≤ b) (h1 : b ≤ 255) (hb : wordB b = false) : (if decide (b.toNat ∈ singles) = true then (1 : Int) else 0) = othV b := by
  have : ∀ m : Fin 256, wordB (m.val : Int) = false → (if decide (m.val ∈ singles) = true then (1 : Int) else 0) = othV (m.val : Int) := by decide +kernel
  have h := this ⟨b.toNat, by omega⟩
  simp only [Int.toNat_of_nonneg h0] at h
  exact h hb
theorem hex_dig (b : Int) : hexB b = decide (0 ≤ digV b) := by
  unfold hexB digV
  rw [Bool.eq_iff_iff, decide_eq_true_iff, decide_eq_true_iff]
  repeat' split
  all_goals omega
theorem word_not37 (b : Int) (h : wordB b = true) : (b == 37) = false := by
  unfold wordB at h
  rw [beq_eq_false_iff_ne]
  simp at h
  omega
end Go.Proofs.Qxb6601440a
