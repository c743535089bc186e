/-
  Contracts for the block value laws: the two clones.
-/
import Derived.Test.Qxb6601440aBvA
namespace Go.Proofs.Qxb6601440a.Bv
open Go.RowKit
set_option linter.unusedVariables false

theorem info4 : (Try.prog.info? 4).map (fun i => (i.zero, i.size, i.bytes)) = some (some (.bool false), 1, 1) := by kernel_rfl
theorem info5 : (Try.prog.info? 5).map (fun i => (i.zero, i.size, i.bytes)) = some (some (.int .u8 0), 1, 1) := by kernel_rfl
theorem info38 : (Try.prog.info? 38).map (fun i => (i.zero, i.size, i.bytes)) = some (some (.slice none 0 0), 1, 24) := by kernel_rfl

def CloneF (w : World) (n : Nat) (E : Nat → Bool) (e : Ending) (w' : World) : Prop := ∃ a' c', e = .returned (.slice a' n c') ∧ FL w' a' n E ∧ Below w.heap.size w w'
def CloneT (w : World) (n : Nat) (L : Nat → Nat) (z : Nat → Nat → Int) (e : Ending) (w' : World) : Prop :=
  ∃ a' c' A' C', e = .returned (.slice a' n c') ∧ TX w' a' n A' L C' z ∧ Below w.heap.size w w'

theorem row_step {w : World} {b t n k : Nat} {z : Nat → Value} {z0 : Value} (h : w.rowIs b t n (fun j => if j < k then z j else z0)) :
    (w.setCell ⟨b, k, none⟩ (z k)).rowIs b t n (fun j => if j < k + 1 then z j else z0) := by
  refine (h.set k (z k)).congr fun j hj => ?_
  by_cases e : j = k
  · subst e; simp
  · by_cases h2 : j < k
    · simp [e, h2, show j < k + 1 by omega]
    · simp [e, h2, show ¬ j < k + 1 by omega]

theorem add_plain0 (g j : Nat) : (⟨g, 0, none⟩ : Addr).add j = ⟨g, j, none⟩ := by rw [Addr.add_lit, Nat.zero_add]

theorem cloneF_nil (w : World) (E : Nat → Bool) : Calls Try.prog 14 #[.slice none 0 0] w fun e w' => CloneF w 0 E e w' := by
  have q23 : ∀ (w : World) (a : Option Addr) (n c n' c' : Nat), (binOp .eql 23 (.slice a n c) (.slice none n' c')).run Try.prog w = .ok (.bool a.isNone) w := fun w a n c n' c' => Lib.run_eql_slice_nil w _ _ a n c n' c' Try.underlying23
  go_enter Try.func14, Try.ntmps14
  go_wp2
  go_ret
  exact ⟨none, 0, rfl, ⟨fun _ => rfl, fun x hx => by cases hx⟩, Below.refl _ _⟩

set_option maxHeartbeats 400000 in
theorem cloneF_some (x : Addr) (n cap : Nat) (E : Nat → Bool) (w : World) (hl : n ≤ 65536) (hc : ∀ j, j < n → w.cell? (x.add j) = some (.bool (E j))) :
    Calls Try.prog 14 #[.slice (some x) n cap] w fun e w' => CloneF w n E e w' := by
  have q23 : ∀ (w : World) (a : Option Addr) (n c n' c' : Nat), (binOp .eql 23 (.slice a n c) (.slice none n' c')).run Try.prog w = .ok (.bool a.isNone) w := fun w a n c n' c' => Lib.run_eql_slice_nil w _ _ a n c n' c' Try.underlying23
  have hmk := run_make_row' (P := Try.prog) 23 4 (.bool false) 1 Try.underlying23 info4 rfl .i64 .i64 n (by omega) (by omega)
  have hrow := World.rowIs_made w (.bool false) n 4
  have hbel : Below w.heap.size w (w.alloc (.cells (madeCells #[.bool false] n) 4)) := (Below.refl _ _).alloc (Nat.le_refl _) _
  go_enter Try.func14, Try.ntmps14
  go_wp2
  go_loopw [4] (fun i wr => ∃ k : Nat, k ≤ n ∧ i = .int .i64 k ∧ wr.rowIs w.heap.size 4 n (fun j => if j < k then .bool (E j) else .bool false) ∧ Below w.heap.size w wr) (fun i _ => n - (intOf i).toNat)
  case atStart => exact ⟨0, by omega, rfl, hrow.congr (fun i hi => by simp), hbel⟩
  case round =>
    obtain ⟨k, hk, rfl, hrw, hb⟩ := hrel
    clear hmk hrow hbel
    by_cases hlt : k < n
    · have h1 : wr.cell? (x.add k) = some (.bool (E k)) := cell_later hb (hc k hlt)
      have h2 := hrw.cell hlt
      have h3 := hrw.frozen k
      simp only [Nat.lt_irrefl, if_false] at h2
      go_wp2
      go_roundw
      case rel => exact ⟨k + 1, by omega, by go_num, row_step (z := fun j => .bool (E j)) hrw, hb.setCell (Nat.le_refl _) _⟩
      case measure => simp [intOf]; omega
    · go_wp2
      go_ret
      refine ⟨some ⟨w.heap.size, 0, none⟩, n, rfl, ⟨fun h => (by cases h), fun y hy i hi => ?_⟩, hb⟩
      cases hy
      rw [add_plain0, hrw.cell hi, if_pos (by omega)]

theorem cloneF_any (a : Option Addr) (n cap : Nat) (E : Nat → Bool) (w : World) (hl : n ≤ 65536) (ha : a = none → cap = 0) (hf : FL w a n E) :
    Calls Try.prog 14 #[.slice a n cap] w fun e w' => CloneF w n E e w' := by
  cases a with
  | none => obtain rfl := hf.1 rfl; obtain rfl := ha rfl; exact cloneF_nil w E
  | some x => exact cloneF_some x n cap E w hl (hf.2 x rfl)

/-- The outer clone, k lines done. -/
def CT (w : World) (n k : Nat) (L : Nat → Nat) (z : Nat → Nat → Int) (wr : World) : Prop :=
  ∃ (A' : Nat → Option Addr) (C' : Nat → Nat), wr.rowIs w.heap.size 38 n (fun j => if j < k then .slice (A' j) (L j) (C' j) else .slice none 0 0) ∧
    (∀ j, j < k → (A' j = none → L j = 0 ∧ C' j = 0) ∧ ∀ y, A' j = some y → w.heap.size < y.block ∧ ∀ q, q < L j → wr.cell? (y.add q) = some (.int .u8 (z j q))) ∧ Below w.heap.size w wr

theorem CT.lt {w wr : World} {n k : Nat} {L : Nat → Nat} {z : Nat → Nat → Int} (h : CT w n k L z wr) : w.heap.size < wr.heap.size := by
  obtain ⟨A', C', h1, h2, h3⟩ := h
  exact h1.lt

theorem CT.skip {w wr : World} {n k : Nat} {L : Nat → Nat} {z : Nat → Nat → Int} (h : CT w n k L z wr) (h0 : L k = 0) : CT w n (k + 1) L z wr := by
  obtain ⟨A', C', h1, h2, h3⟩ := h
  refine ⟨fun j => if j < k then A' j else none, fun j => if j < k then C' j else 0, h1.congr fun j hj => ?_, fun j hj => ?_, h3⟩
  · by_cases e : j < k
    · simp [e, show j < k + 1 by omega]
    · by_cases e2 : j = k
      · subst e2; simp [h0]
      · simp [e, show ¬ j < k + 1 by omega]
  · by_cases e : j < k
    · simp only [e, if_true]
      exact h2 j e
    · have : j = k := by omega
      subst this
      simp [h0]

theorem CT.step {w wr wi : World} {n k : Nat} {L : Nat → Nat} {z : Nat → Nat → Int} (h : CT w n k L z wr) (hb : Below wr.heap.size wr wi) (hr : wi.rowIs wr.heap.size 5 (L k) (fun j => .int .u8 (z k j))) :
    CT w n (k + 1) L z (wi.setCell ⟨w.heap.size, k, none⟩ (.slice (some ⟨wr.heap.size, 0, none⟩) (L k) (L k))) := by
  have hlt := h.lt
  obtain ⟨A', C', h1, h2, h3⟩ := h
  have h1' : wi.rowIs w.heap.size 38 n (fun j => if j < k then .slice (A' j) (L j) (C' j) else .slice none 0 0) := h1.of_block (hb.block _ hlt)
  refine ⟨fun j => if j < k then A' j else some ⟨wr.heap.size, 0, none⟩, fun j => if j < k then C' j else L k, (h1'.set k _).congr fun j hj => ?_, fun j hj => ?_, (h3.trans (hb.mono (Nat.le_of_lt hlt))).setCell (Nat.le_refl _) _⟩
  · by_cases e2 : j = k
    · subst e2; simp
    · by_cases e : j < k
      · simp [e, e2, show j < k + 1 by omega]
      · simp [e, e2, show ¬ j < k + 1 by omega]
  · by_cases e : j < k
    · simp only [e, if_true]
      refine ⟨(h2 j e).1, fun y hy => ⟨((h2 j e).2 y hy).1, fun q hq => ?_⟩⟩
      obtain ⟨g1, g2⟩ := (h2 j e).2 y hy
      have hne : (⟨w.heap.size, k, none⟩ : Addr) ≠ y.add q := by
        intro he
        have : w.heap.size = (y.add q).block := congrArg Addr.block he
        have e3 : (y.add q).block = y.block := by unfold Addr.add; split <;> rfl
        omega
      rw [World.cell?_setCell_other _ _ _ _ hne]
      exact cell_later hb (g2 q hq)
    · have : j = k := by omega
      subst this
      simp only [Nat.lt_irrefl, if_false]
      refine ⟨fun hh => (by cases hh), fun y hy => ?_⟩
      cases hy
      refine ⟨hlt, fun q hq => ?_⟩
      rw [add_plain0, World.cell?_setCell_other _ _ _ _ (fun he => by have := congrArg Addr.block he; simp at this; omega)]
      exact hr.cell hq

theorem CT.done {w wr : World} {n : Nat} {L : Nat → Nat} {z : Nat → Nat → Int} (h : CT w n n L z wr) (hL : ∀ i, i < n → L i ≤ maxLen) : CloneT w n L z (.returned (.slice (some ⟨w.heap.size, 0, none⟩) n n)) wr := by
  obtain ⟨A', C', h1, h2, h3⟩ := h
  refine ⟨some ⟨w.heap.size, 0, none⟩, n, A', C', rfl, ⟨fun hh => (by cases hh), fun y hy i hi => ?_, fun i hi => ⟨hL i hi, (h2 i hi).1, fun y hy j hj => ((h2 i hi).2 y hy).2 j hj⟩⟩, h3⟩
  cases hy
  rw [add_plain0, h1.cell hi, if_pos hi]

theorem cloneT_nil (w : World) (L : Nat → Nat) (z : Nat → Nat → Int) : Calls Try.prog 13 #[.slice none 0 0] w fun e w' => CloneT w 0 L z e w' := by
  have q22 : ∀ (w : World) (a : Option Addr) (n c n' c' : Nat), (binOp .eql 22 (.slice a n c) (.slice none n' c')).run Try.prog w = .ok (.bool a.isNone) w := fun w a n c n' c' => Lib.run_eql_slice_nil w _ _ a n c n' c' Try.underlying22
  go_enter Try.func13, Try.ntmps13
  go_wp2
  go_ret
  exact ⟨none, 0, fun _ => none, fun _ => 0, rfl, ⟨fun _ => rfl, fun x hx => (by cases hx), fun i hi => by omega⟩, Below.refl _ _⟩

set_option maxHeartbeats 1000000 in
theorem cloneT_some (x : Addr) (n cap : Nat) (A : Nat → Option Addr) (L C : Nat → Nat) (z : Nat → Nat → Int) (w : World) (hl : n ≤ 65536) (ht : TX w (some x) n A L C z) (hL : ∀ i, i < n → L i ≤ 1048576) :
    Calls Try.prog 13 #[.slice (some x) n cap] w fun e w' => CloneT w n L z e w' := by
  have q22 : ∀ (w : World) (a : Option Addr) (n c n' c' : Nat), (binOp .eql 22 (.slice a n c) (.slice none n' c')).run Try.prog w = .ok (.bool a.isNone) w := fun w a n c n' c' => Lib.run_eql_slice_nil w _ _ a n c n' c' Try.underlying22
  have q38 : ∀ (w : World) (a : Option Addr) (n c n' c' : Nat), (binOp .eql 38 (.slice a n c) (.slice none n' c')).run Try.prog w = .ok (.bool a.isNone) w := fun w a n c n' c' => Lib.run_eql_slice_nil w _ _ a n c n' c' Try.underlying38
  have hmk := run_make_row' (P := Try.prog) 22 38 (.slice none 0 0) 24 Try.underlying22 info38 rfl .i64 .i64 n (by omega) (by omega)
  have hstart : CT w n 0 L z (w.alloc (.cells (madeCells #[.slice none 0 0] n) 38)) :=
    ⟨fun _ => none, fun _ => 0, (World.rowIs_made w (.slice none 0 0) n 38).congr (fun i hi => by simp), fun j hj => by omega, (Below.refl _ _).alloc (Nat.le_refl _) _⟩
  have HS := hide hstart
  have HT := hide ht
  have HL := hide hL
  clear hstart ht hL
  go_enter Try.func13, Try.ntmps13
  go_wp2
  go_loopw [4] (fun i wr => ∃ k : Nat, k ≤ n ∧ i = .int .i64 k ∧ CT w n k L z wr) (fun i _ => n - (intOf i).toNat)
  case atStart => exact ⟨0, by omega, rfl, unhide HS⟩
  case round =>
    obtain ⟨k, hk, rfl, hct⟩ := hrel
    rename World => w1
    clear hmk HS
    by_cases hlt : k < n
    · have hbw : Below w.heap.size w w1 := by obtain ⟨_, _, _, _, h⟩ := hct; exact h
      have hck : w1.cell? (x.add k) = some (.slice (A k) (L k) (C k)) := cell_later hbw ((unhide HT).2.1 x rfl k hlt)
      have hlk := unhide HL k hlt
      have hinn := ((unhide HT).2.2 k hlt).2
      cases hA : A k with
      | none =>
        obtain ⟨h0, h0'⟩ := hinn.1 hA
        have HC := hide (hct.skip h0)
        rw [hA, h0, h0'] at hck
        clear hA h0 h0' hinn hct hlk hbw
        go_wp2
        go_roundw
        case rel => exact ⟨k + 1, by omega, by go_num, unhide HC⟩
        case measure => simp [intOf]; omega
      | some y =>
        have hcells := hinn.2 y hA
        rw [hA] at hck
        have hmk2 := run_make_row' (P := Try.prog) 38 5 (.int .u8 0) 1 Try.underlying38 info5 rfl .i64 .i64 (L k) (by omega) (by omega)
        have hrow := hide (World.rowIs_made w1 (.int .u8 0) (L k) 5)
        have hbel : Hid (Below w1.heap.size w1 (w1.alloc (.cells (madeCells #[.int .u8 0] (L k)) 5))) := (Below.refl _ _).alloc (Nat.le_refl _) _
        have hck2 : ∀ o, (w1.alloc o).cell? (x.add k) = some (.slice (some y) (L k) (C k)) := fun o => cell_later ((Below.refl _ _).alloc (Nat.le_refl _) _) hck
        have HC := hide hct
        have HCL := hide hcells
        have HBW := hide hbw
        have hszlt : w.heap.size < w1.heap.size := hct.lt
        clear hA hinn hct hcells hbw
        go_wp2
        go_loopw [6] (fun i wi => ∃ q : Nat, q ≤ L k ∧ i = .int .i64 q ∧ wi.rowIs w1.heap.size 5 (L k) (fun j => if j < q then .int .u8 (z k j) else .int .u8 0) ∧ Below w1.heap.size w1 wi) (fun i _ => L k - (intOf i).toNat)
        case atStart => exact ⟨0, by omega, rfl, (unhide hrow).congr (fun i hi => by simp), unhide hbel⟩
        case round =>
          rename World => wi
          obtain ⟨q, hq, rfl, hrw, hb⟩ := hrel
          clear hmk2 hrow hbel hck2
          by_cases hqlt : q < L k
          · have h0 : wi.cell? (x.add k) = some (.slice (some y) (L k) (C k)) := cell_later hb hck
            have h1 : wi.cell? (y.add q) = some (.int .u8 (z k q)) := cell_later hb (cell_later (unhide HBW) (unhide HCL q hqlt))
            have h2 := hrw.cell hqlt
            have h3 := hrw.frozen q
            simp only [Nat.lt_irrefl, if_false] at h2
            go_wp2
            go_roundw
            case rel => exact ⟨q + 1, by omega, by go_num, row_step (z := fun j => .int .u8 (z k j)) hrw, hb.setCell (Nat.le_refl _) _⟩
            case measure => simp [intOf]; omega
          · have hfull : wi.rowIs w1.heap.size 5 (L k) (fun j => .int .u8 (z k j)) := hrw.congr (fun j hj => by rw [if_pos (by omega)])
            have HN := hide ((unhide HC).step hb hfull)
            have hrowo : ∃ v0, wi.cell? ⟨w.heap.size, k, none⟩ = some v0 ∧ wi.frozen? ⟨w.heap.size, k, none⟩ = false := by
              obtain ⟨A', C', g1, _, _⟩ := unhide HC
              have g2 := g1.of_block (hb.block _ hszlt)
              exact ⟨_, g2.cell hlt, g2.frozen k⟩
            obtain ⟨v0, hv0, hfz0⟩ := hrowo
            clear hrw hfull hb
            go_wp2
            go_roundw
            case rel => exact ⟨k + 1, by omega, by go_num, unhide HN⟩
            case measure => simp [intOf]; omega
    · have hkn : k = n := by omega
      subst hkn
      have HD := hide (hct.done (fun i hi => ((unhide HT).2.2 i hi).1))
      clear hct
      go_wp2
      go_ret
      exact unhide HD

theorem cloneT_any (a : Option Addr) (n cap : Nat) (A : Nat → Option Addr) (L C : Nat → Nat) (z : Nat → Nat → Int) (w : World) (hl : n ≤ 65536) (ha : a = none → cap = 0) (ht : TX w a n A L C z) (hL : ∀ i, i < n → L i ≤ 1048576) :
    Calls Try.prog 13 #[.slice a n cap] w fun e w' => CloneT w n L z e w' := by
  cases a with
  | none => obtain rfl := ht.1 rfl; obtain rfl := ha rfl; exact cloneT_nil w L z
  | some x => exact cloneT_some x n cap A L C z w hl ht hL
end Go.Proofs.Qxb6601440a.Bv
