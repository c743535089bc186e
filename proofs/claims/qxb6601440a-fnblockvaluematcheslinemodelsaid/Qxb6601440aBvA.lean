/-
  Contracts for the block value laws: the guards that read the lines.
-/
import Derived.Test.Qxb6601440aRows
import Derived.WalkKit
import Derived.WalkSpells
import Derived.ProofKit
import Derived.Deep.OwnRows
namespace Go.Proofs.Qxb6601440a.Bv
open Go.RowKit
set_option linter.unusedVariables false

theorem ret_int {k : IntKind} {a b : Int} (h : a = b) : Ending.returned (.int k a) = .returned (.int k b) := by rw [h]
theorem ret_bool {a b : Bool} (h : a = b) : Ending.returned (.bool a) = .returned (.bool b) := by rw [h]
theorem hide {p : Prop} (h : p) : Hid p := h
theorem unhide {p : Prop} (h : Hid p) : p := h

/-- A call that answers some bool. -/
def RB (e : Ending) : Prop := ∃ r : Bool, e = .returned (.bool r)
/-- A call that answers some bool, and where it is true this holds. -/
def RBP (p : Prop) (e : Ending) : Prop := ∃ r : Bool, e = .returned (.bool r) ∧ (r = true → p)

/-- The lines: text i lies behind the outer slice's cell i; nil or not. -/
def TX (w : World) (a : Option Addr) (n : Nat) (A : Nat → Option Addr) (L C : Nat → Nat) (z : Nat → Nat → Int) : Prop :=
  (a = none → n = 0) ∧ (∀ x, a = some x → ∀ i, i < n → w.cell? (x.add i) = some (.slice (A i) (L i) (C i))) ∧
  ∀ i, i < n → L i ≤ maxLen ∧ (A i = none → L i = 0 ∧ C i = 0) ∧ (∀ y, A i = some y → ∀ j, j < L i → w.cell? (y.add j) = some (.int .u8 (z i j)))

/-- The flags. -/
def FL (w : World) (a : Option Addr) (n : Nat) (E : Nat → Bool) : Prop :=
  (a = none → n = 0) ∧ ∀ x, a = some x → ∀ i, i < n → w.cell? (x.add i) = some (.bool (E i))

theorem TX.later {w w' : World} {a : Option Addr} {n : Nat} {A : Nat → Option Addr} {L C : Nat → Nat} {z : Nat → Nat → Int} (h : TX w a n A L C z) (hb : Below w.heap.size w w') : TX w' a n A L C z :=
  ⟨h.1, fun x hx i hi => cell_later hb (h.2.1 x hx i hi), fun i hi => ⟨(h.2.2 i hi).1, (h.2.2 i hi).2.1, fun y hy j hj => cell_later hb ((h.2.2 i hi).2.2 y hy j hj)⟩⟩
theorem FL.later {w w' : World} {a : Option Addr} {n : Nat} {E : Nat → Bool} (h : FL w a n E) (hb : Below w.heap.size w w') : FL w' a n E :=
  ⟨h.1, fun x hx i hi => cell_later hb (h.2 x hx i hi)⟩

def sumL (L : Nat → Nat) : Nat → Nat
  | 0 => 0
  | k + 1 => sumL L k + L k
theorem sumL_succ (L : Nat → Nat) (k : Nat) : sumL L (k + 1) = sumL L k + L k := rfl

set_option maxHeartbeats 400000 in
theorem zz17_any (a : Option Addr) (n cap m c2 : Nat) (a2 : Option Addr) (A : Nat → Option Addr) (L C : Nat → Nat) (z : Nat → Nat → Int) (f : Bool) (ch : Int) (w : World)
    (hn : n ≤ maxLen) (hm : m ≤ maxLen) (ht : TX w a n A L C z) :
    Calls Try.prog 17 #[.slice a n cap, .slice a2 m c2, .bool f, .int .u8 ch] w fun e w' => RB e ∧ w' = w := by
  have hc := ht.1
  have hx := ht.2.1
  have hl := fun i hi => (ht.2.2 i hi).1
  unfold maxLen at hn hm hl
  clear ht
  by_cases h1 : n ≤ 1048576
  · go_enter Try.func17, Try.ntmps17
    go_wp2
    go_loop [8, 9, 10] (fun t8 t i => ∃ (k : Nat) (s : Int), k ≤ n ∧ t8 = .bool false ∧ i = .int .i64 k ∧ t = .int .i64 s ∧ 0 ≤ s ∧ s ≤ 1048576) (fun _ _ i => n - (intOf i).toNat)
    case atStart => exact ⟨0, n, by omega, rfl, rfl, rfl, by omega, by omega⟩
    case round =>
      obtain ⟨k, s, hk, rfl, rfl, rfl, hs0, hs1⟩ := hrel
      by_cases hlt : k < n
      · obtain ⟨x, rfl⟩ : ∃ x, a = some x := by
          cases a with
          | none => exact absurd (hc rfl) (by omega)
          | some x => exact ⟨x, rfl⟩
        have hck := hx x rfl k hlt
        have hlk := hl k hlt
        clear hx hl hc
        go_wp2
        · go_ret
          exact ⟨⟨_, rfl⟩, rfl⟩
        · go_ret
          exact ⟨⟨_, rfl⟩, rfl⟩
        · go_round
          case rel => exact ⟨k + 1, _, by omega, rfl, by go_num, rfl, by omega, by omega⟩
          case measure => simp [intOf]; omega
      · clear hx hl hc
        go_wp2
        all_goals
          go_ret
          exact ⟨⟨_, rfl⟩, rfl⟩
  · clear hx hl hc
    go_enter Try.func17, Try.ntmps17
    go_wp2
    go_ret
    exact ⟨⟨_, rfl⟩, rfl⟩

set_option maxHeartbeats 400000 in
theorem zz10_any (a : Option Addr) (n cap m c2 : Nat) (a2 : Option Addr) (A : Nat → Option Addr) (L C : Nat → Nat) (z : Nat → Nat → Int) (f : Bool) (ch : Int) (w : World)
    (hn : n ≤ maxLen) (hm : m ≤ maxLen) (ht : TX w a n A L C z) :
    Calls Try.prog 10 #[.slice a n cap, .slice a2 m c2, .bool f, .int .u8 ch] w fun e w' => RB e ∧ w' = w := by
  have hc := ht.1
  have hx := ht.2.1
  have hl := fun i hi => (ht.2.2 i hi).1
  unfold maxLen at hn hm hl
  clear ht
  by_cases h1 : n ≤ 1048576
  · go_enter Try.func10, Try.ntmps10
    go_wp2
    go_loop [8, 9, 10] (fun t8 t i => ∃ (k : Nat) (s : Int), k ≤ n ∧ t8 = .bool false ∧ i = .int .i64 k ∧ t = .int .i64 s ∧ 0 ≤ s ∧ s ≤ 1048576) (fun _ _ i => n - (intOf i).toNat)
    case atStart => exact ⟨0, n, by omega, rfl, rfl, rfl, by omega, by omega⟩
    case round =>
      obtain ⟨k, s, hk, rfl, rfl, rfl, hs0, hs1⟩ := hrel
      by_cases hlt : k < n
      · obtain ⟨x, rfl⟩ : ∃ x, a = some x := by
          cases a with
          | none => exact absurd (hc rfl) (by omega)
          | some x => exact ⟨x, rfl⟩
        have hck := hx x rfl k hlt
        have hlk := hl k hlt
        clear hx hl hc
        go_wp2
        · go_ret
          exact ⟨⟨_, rfl⟩, rfl⟩
        · go_ret
          exact ⟨⟨_, rfl⟩, rfl⟩
        · go_round
          case rel => exact ⟨k + 1, _, by omega, rfl, by go_num, rfl, by omega, by omega⟩
          case measure => simp [intOf]; omega
      · clear hx hl hc
        go_wp2
        all_goals
          go_ret
          exact ⟨⟨_, rfl⟩, rfl⟩
  · clear hx hl hc
    go_enter Try.func10, Try.ntmps10
    go_wp2
    go_ret
    exact ⟨⟨_, rfl⟩, rfl⟩


def sizeOK (n m : Nat) (L : Nat → Nat) : Prop := n ≤ 65536 ∧ m ≤ 65536 ∧ m + 24 * n + sumL L n ≤ 1048576

set_option maxHeartbeats 400000 in
theorem size_any (a : Option Addr) (n cap m c2 : Nat) (a2 : Option Addr) (A : Nat → Option Addr) (L C : Nat → Nat) (z : Nat → Nat → Int) (w : World)
    (hn : n ≤ maxLen) (hm : m ≤ maxLen) (ht : TX w a n A L C z) :
    Calls Try.prog 11 #[.slice a n cap, .slice a2 m c2] w fun e w' => RBP (sizeOK n m L) e ∧ w' = w := by
  have hc := ht.1
  have hx := ht.2.1
  have hl := fun i hi => (ht.2.2 i hi).1
  unfold maxLen at hn hm hl
  clear ht
  by_cases h1 : n ≤ 65536
  · by_cases h2 : m ≤ 65536
    · go_enter Try.func11, Try.ntmps11
      go_wp2
      go_loop [4, 5, 6] (fun t4 t i => ∃ (k : Nat) (s : Int), k ≤ n ∧ t4 = .bool false ∧ i = .int .i64 k ∧ t = .int .i64 s ∧ 0 ≤ s ∧ (0 < k → s ≤ 1048576) ∧ s ≤ 9999999 ∧ Hid (s = m + 24 * n + sumL L k)) (fun _ _ i => n - (intOf i).toNat)
      case atStart => exact ⟨0, (m : Int) + 24 * n, by omega, rfl, rfl, by simp; try omega, by omega, by omega, by omega, by show (m : Int) + 24 * n = m + 24 * n + (0 : Nat); omega⟩
      case round =>
        obtain ⟨k, s, hk, rfl, rfl, rfl, hs0, hs1, hs2, hsum⟩ := hrel
        by_cases hlt : k < n
        · obtain ⟨x, rfl⟩ : ∃ x, a = some x := by
            cases a with
            | none => exact absurd (hc rfl) (by omega)
            | some x => exact ⟨x, rfl⟩
          have hck := hx x rfl k hlt
          have hlk := hl k hlt
          clear hx hl hc
          go_wp2
          · go_ret
            exact ⟨⟨false, rfl, fun h => by cases h⟩, rfl⟩
          · go_ret
            exact ⟨⟨false, rfl, fun h => by cases h⟩, rfl⟩
          · go_round
            case rel => exact ⟨k + 1, _, by omega, rfl, by go_num, rfl, by omega, by omega, by omega, by have := hsum.out; show _ = _; rw [sumL_succ]; omega⟩
            case measure => simp [intOf]; omega
        · clear hx hl hc
          have hkn : k = n := by omega
          go_wp2
          go_ret
          refine ⟨⟨_, rfl, fun h => ⟨h1, h2, ?_⟩⟩, rfl⟩
          have h3 := hsum.out
          rw [hkn] at h3
          simp at h
          omega
    · clear hx hl hc
      go_enter Try.func11, Try.ntmps11
      go_wp2
      go_ret
      exact ⟨⟨false, rfl, fun h => by cases h⟩, rfl⟩
  · clear hx hl hc
    go_enter Try.func11, Try.ntmps11
    go_wp2
    go_ret
    exact ⟨⟨false, rfl, fun h => by cases h⟩, rfl⟩

def wellFormed (n m : Nat) (L : Nat → Nat) (E : Nat → Bool) : Prop := n = m ∧ ∀ i, i < n → E i = false → 0 < L i

set_option maxHeartbeats 400000 in
theorem well_any (a : Option Addr) (n cap m c2 : Nat) (a2 : Option Addr) (A : Nat → Option Addr) (L C : Nat → Nat) (z : Nat → Nat → Int) (E : Nat → Bool) (w : World)
    (hn : n ≤ 65536) (hm : m ≤ 65536) (ht : TX w a n A L C z) (hf : FL w a2 m E) :
    Calls Try.prog 12 #[.slice a n cap, .slice a2 m c2] w fun e w' => RBP (wellFormed n m L E) e ∧ w' = w := by
  have hc := ht.1
  have hx := ht.2.1
  have hl := fun i hi => (ht.2.2 i hi).1
  have hcf := hf.1
  have hxf := hf.2
  unfold maxLen at hl
  clear ht hf
  by_cases h1 : n = m
  · subst h1
    go_enter Try.func12, Try.ntmps12
    go_wp2
    go_loop [4, 5] (fun t4 i => ∃ (k : Nat), k ≤ n ∧ t4 = .bool false ∧ i = .int .i64 k ∧ Hid (∀ i, i < k → E i = false → 0 < L i)) (fun _ i => n - (intOf i).toNat)
    case atStart => exact ⟨0, by omega, rfl, rfl, fun i hi => by omega⟩
    case round =>
      obtain ⟨k, hk, rfl, rfl, hall⟩ := hrel
      by_cases hlt : k < n
      · obtain ⟨x, rfl⟩ : ∃ x, a = some x := by
          cases a with
          | none => exact absurd (hc rfl) (by omega)
          | some x => exact ⟨x, rfl⟩
        obtain ⟨y, rfl⟩ : ∃ x, a2 = some x := by
          cases a2 with
          | none => exact absurd (hcf rfl) (by omega)
          | some x => exact ⟨x, rfl⟩
        have hck := hx x rfl k hlt
        have hcy := hxf y rfl k hlt
        have hlk := hl k hlt
        clear hx hl hc hxf hcf
        cases hE : E k
        · have HE := hide hE
          rw [hE] at hcy
          clear hE
          by_cases h0 : L k = 0
          · rw [h0] at hck
            go_wp2
            go_ret
            exact ⟨⟨false, rfl, fun h => by cases h⟩, rfl⟩
          · go_wp2
            go_round
            case rel =>
              refine ⟨k + 1, by omega, rfl, by go_num, fun i hi he => ?_⟩
              by_cases e : i = k
              · subst e; omega
              · exact hall.out i (by omega) he
            case measure => simp [intOf]; omega
        · have HE := hide hE
          rw [hE] at hcy
          clear hE
          go_wp2
          go_round
          case rel =>
            refine ⟨k + 1, by omega, rfl, by go_num, fun i hi he => ?_⟩
            by_cases e : i = k
            · subst e; rw [unhide HE] at he; cases he
            · exact hall.out i (by omega) he
          case measure => simp [intOf]; omega
      · clear hx hl hc hxf hcf
        have hkn : k = n := by omega
        subst hkn
        go_wp2
        go_ret
        exact ⟨⟨true, rfl, fun _ => ⟨rfl, hall.out⟩⟩, rfl⟩
  · have hne : ((n : Int) != (m : Int)) = true := by rw [bne_iff_ne]; omega
    clear hx hl hc hxf hcf
    go_enter Try.func12, Try.ntmps12
    go_wp2
    go_ret
    exact ⟨⟨false, rfl, fun h => by cases h⟩, rfl⟩
end Go.Proofs.Qxb6601440a.Bv
