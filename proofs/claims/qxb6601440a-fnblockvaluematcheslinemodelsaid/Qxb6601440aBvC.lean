/-
  Contracts for the block value laws: blockValue and what it calls.
-/
import Derived.Test.Qxb6601440aBvB
import Derived.Outline
namespace Go.Proofs.Qxb6601440a.Bv
open Go.RowKit
set_option linter.unusedVariables false

def whiteB (n : Int) : Bool := decide (n = 32 ∨ n = 9)
theorem isWhite_any (n : Int) (w : World) : Calls Try.prog 40 #[.int .u8 n] w fun e w' => e = .returned (.bool (whiteB n)) ∧ w' = w := by
  go_enter Try.func40, Try.ntmps40
  go_wp2
  all_goals
    go_ret
    refine ⟨ret_bool ?_, rfl⟩
    unfold whiteB
    rw [Bool.eq_iff_iff]
    simp
    try omega
theorem bvWhite_any (n : Int) (w : World) : Calls Try.prog 37 #[.int .u8 n] w fun e w' => e = .returned (.bool (whiteB n)) ∧ w' = w := by
  go_enter Try.func37, Try.ntmps37
  go_wp2
  all_goals
    go_ret
    refine ⟨ret_bool ?_, rfl⟩
    unfold whiteB
    rw [Bool.eq_iff_iff]
    simp
    try omega

/-- The value built so far owns these bytes. -/
def Own (w : World) (B : Nat) (v : Value) (xs : List Int) : Prop := w.ownsRow B 5 1 v xs.length (xs.map (Value.int .u8))
/-- Below B nothing has turned, and no row of another type than byte has. -/
def St (B : Nat) (w w' : World) : Prop := Below B w w' ∧ ∀ (k : Nat) (c : Array Value) (t : TypeId) (m : Nat × Nat), w.heap[k]? = some (Obj.cells c t m) → t ≠ 5 → w'.heap[k]? = w.heap[k]?

theorem St.refl (B : Nat) (w : World) : St B w w := ⟨Below.refl _ _, fun _ _ _ _ _ _ => rfl⟩
theorem St.trans {B : Nat} {a b c : World} (h : St B a b) (k : St B b c) : St B a c :=
  ⟨h.1.trans k.1, fun i cc t m hi ht => by have h1 := h.2 i cc t m hi ht; rw [← h1]; exact k.2 i cc t m (by rw [h1]; exact hi) ht⟩
theorem St.alloc {B : Nat} {a w : World} (h : St B a w) (hB : B ≤ w.heap.size) (o : Obj) : St B a (w.alloc o) :=
  h.trans ⟨(Below.refl _ _).alloc hB o, fun k c t m hk ht => Below.heap_alloc _ _ _ (Array.getElem?_eq_some_iff.1 hk).1⟩
/-- Behind an append. -/
theorem St.grown {B : Nat} {w w' : World} {v : Value} {xs : List Int} (ho : Own w B v xs) (hB : B ≤ w.heap.size) (hg : w.grownBy w' v.ownBlock) : St B w w' := by
  refine ⟨(Below.refl _ _).grown hg hB (fun k hk => (ho.lt k hk).1), fun k c t m hk ht => hg.block k (Array.getElem?_eq_some_iff.1 hk).1 fun e => ?_⟩
  obtain ⟨h1, h2⟩ := ho
  rcases h2 with ⟨rfl, _⟩ | ⟨g, cap, cur, rfl, hb, hgg, rest⟩
  · simp [Value.ownBlock] at e
  · simp [Value.ownBlock] at e
    subst e
    rw [hgg] at hk
    simp at hk
    exact ht hk.2.1.symm
theorem Own.step {B : Nat} {w' : World} {v' : Value} {xs ys : List Int} {n : Nat} (h : w'.ownsRow B 5 1 v' n (xs.map (Value.int .u8) ++ ys.map (Value.int .u8))) (hn : n = xs.length + ys.length) : Own w' B v' (xs ++ ys) := by
  unfold Own
  rw [List.map_append, List.length_append, ← hn]
  exact h

def AppP (B : Nat) (w : World) (xs : List Int) (e : Ending) (w' : World) : Prop := ∃ v', e = .returned v' ∧ Own w' B v' xs ∧ St B w w'

theorem one_cell {w : World} {t : TypeId} (u : Value) : ∀ j x, [u][j]? = some x → (w.alloc (.cells #[u] t)).cell? ((⟨w.heap.size, 0, none⟩ : Addr).add j) = some x := by
  intro j x hj
  match j, hj with
  | 0, hj => simp at hj; subst hj; simp [Addr.add]

set_option maxHeartbeats 400000 in
theorem breaks_any (B : Nat) (v : Value) (xs : List Int) (k : Nat) (w : World) (hB : B ≤ w.heap.size) (hk : k ≤ 1048576) (hx : xs.length ≤ 4194304) (ho : Own w B v xs) :
    Calls Try.prog 36 #[v, .int .i64 k] w fun e w' => AppP B w (xs ++ List.replicate k 10) e w' := by
  obtain ⟨i0, hi, hz0, hz1, hz2⟩ := info_parts info5
  have HO := hide ho
  clear ho
  go_enter Try.func36, Try.ntmps36
  go_wp2
  go_loopw [0, 5] (fun v i wr => ∃ j : Nat, j ≤ k ∧ i = .int .i64 j ∧ Own wr B v (xs ++ List.replicate j 10) ∧ St B w wr) (fun _ i _ => k - (intOf i).toNat)
  case atStart => exact ⟨0, by omega, rfl, by simpa using unhide HO, St.refl _ _⟩
  case round =>
    obtain ⟨j, hj, rfl, hown, hst⟩ := hrel
    by_cases hlt : j < k
    · have hBr : B ≤ wr.heap.size := Nat.le_trans hB hst.1.size
      generalize hys : xs ++ List.replicate j 10 = ys at hown
      have hyl : ys.length ≤ 9999999 := by rw [← hys]; simp; omega
      have HYS := hide hys
      have HOW := hide hown
      have HST := hide hst
      clear hown hst hys
      go_wp2_with (at_builtin; refine wpList_append_own _ rfl _ _ 38 rfl B 5 i0 (.int .u8 0) 1 1 Try.underlying38 hi hz0 hz1 hz2 rfl (by decide) _ _ _ rfl ((unhide HOW).alloc _) ⟨wr.heap.size, 0, none⟩ 1 1 [.int .u8 10] rfl rfl (one_cell _) ?c2 ?c3 ?c4 ?c5 ?_)
      case c2 => intro u hu; simp at hu; subst hu; rfl
      case c3 => simp [maxLen]; omega
      case c4 => simp; omega
      case c5 => simp; omega
      · intro v' w1 hown' hgrow _
        have R1 : Hid (Own w1 B v' (xs ++ List.replicate (j + 1) 10)) := by
          have := Own.step (xs := ys) (ys := [10]) hown' rfl
          rw [← unhide HYS, List.append_assoc, ← List.replicate_succ'] at this
          exact this
        have R2 : Hid (St B w w1) := ((unhide HST).alloc hBr _).trans (St.grown ((unhide HOW).alloc _) (by simp; omega) hgrow)
        clear hown' hgrow
        go_wp2
        go_roundw
        case rel => exact ⟨j + 1, by omega, by go_num, unhide R1, unhide R2⟩
        case measure => simp [intOf]; omega
    · have hjk : j = k := by omega
      subst hjk
      go_wp2
      go_ret
      exact ⟨_, rfl, hown, hst⟩
end Go.Proofs.Qxb6601440a.Bv
