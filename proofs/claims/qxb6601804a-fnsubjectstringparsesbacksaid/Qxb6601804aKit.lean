/-
  The subject's text: the callees' contracts.
-/
import Derived.Test.Qxb6601804aRows
import Derived.WalkKit
import Derived.WalkSpells
import Derived.ProofKit
import Derived.PlainAid
import Derived.Lib.Hide
import Derived.Lib.Strings
import Derived.Lib.IndexBytes
import Derived.Deep.RegionWith
namespace Go.Proofs.Qxb6601804a
open Go.RowKit Go.PlainAid
set_option linter.unusedVariables false
theorem hide {p : Prop} (h : p) : Hid p := h
theorem unhide {p : Prop} (h : Hid p) : p := h
theorem ret_int {k : IntKind} {a b : Int} (h : a = b) : Ending.returned (.int k a) = .returned (.int k b) := by rw [h]
theorem Grown.trans {a b c : World} (h : Grown a b) (k : Grown b c) : Grown a c :=
  ⟨World.keptBut_trans h.1 k.1 , fun x => (k.2.1 x).trans (h.2.1 x), Nat.le_trans h.2.2 k.2.2⟩


/-- The first place of a byte, or -1. -/
def FI (s : ByteArray) (c : Int) (r : Int) : Prop :=
  (r = -1 ∧ ∀ i, i < s.size → bt s i ≠ c) ∨ ∃ k : Nat, r = k ∧ k < s.size ∧ bt s k = c ∧ ∀ i, i < k → bt s i ≠ c
def FIP (s : ByteArray) (c : Int) (w : World) (e : Ending) (w' : World) : Prop := ∃ r, e = .returned (.int .i64 r) ∧ FI s c r ∧ w' = w

theorem FI.none {s : ByteArray} {c r : Int} (h : FI s c r) (hn : ∀ i, i < s.size → bt s i ≠ c) : r = -1 := by
  rcases h with ⟨h, _⟩ | ⟨k, rfl, h1, h2, _⟩
  · exact h
  · exact absurd h2 (hn k h1)
theorem FI.some {s : ByteArray} {c r : Int} (h : FI s c r) (k : Nat) (h1 : k < s.size) (h2 : bt s k = c) (h3 : ∀ i, i < k → bt s i ≠ c) : r = k := by
  rcases h with ⟨h, h'⟩ | ⟨j, rfl, j1, j2, j3⟩
  · exact absurd h2 (h' k h1)
  · by_cases e1 : j < k
    · exact absurd j2 (h3 j e1)
    · by_cases e2 : k < j
      · exact absurd h2 (j3 k e2)
      · have : j = k := by omega
        rw [this]

set_option maxHeartbeats 400000 in
theorem fi_any (s : ByteArray) (c : Int) (w : World) (hs : s.size ≤ maxLen) : Calls Try.prog 5 #[.string s, .int .u8 c] w fun e w' => FIP s c w e w' := by
  unfold maxLen at hs
  go_enter Try.func5, Try.ntmps5
  go_wp2
  go_loop [4, 5] (fun t4 i => ∃ k : Nat, k ≤ s.size ∧ t4 = .int .i64 0 ∧ i = .int .i64 k ∧ ∀ j, j < k → bt s j ≠ c) (fun _ i => s.size - (intOf i).toNat)
  case atStart => exact ⟨0, by omega, rfl, rfl, fun j hj => by omega⟩
  case round =>
    obtain ⟨k, hk, rfl, rfl, hno⟩ := hrel
    have HNO := hide hno
    clear hno
    by_cases hlt : k < s.size
    · have hb := get_bt s k hlt
      by_cases he : bt s k = c
      · have heq : (bt s k == c) = true := by rw [beq_iff_eq]; exact he
        have HE := hide he
        clear he
        go_wp2
        go_ret
        exact ⟨_, rfl, .inr ⟨k, rfl, hlt, unhide HE, unhide HNO⟩, rfl⟩
      · have heq : (bt s k == c) = false := by rw [beq_eq_false_iff_ne]; exact he
        have HE := hide he
        clear he
        go_wp2
        go_round
        case rel =>
          refine ⟨k + 1, by omega, rfl, by go_num, fun j hj => ?_⟩
          by_cases e : j = k
          · rw [e]; exact unhide HE
          · exact unhide HNO j (by omega)
        case measure => simp [intOf]; omega
    · go_wp2
      go_ret
      exact ⟨_, rfl, .inl ⟨rfl, fun i hi => unhide HNO i (by omega)⟩, rfl⟩

def StrP (s : ByteArray) (w : World) (e : Ending) (w' : World) : Prop := e = .returned (.string s) ∧ Grown w w'
def colon : ByteArray := ⟨#[58]⟩
def hash : ByteArray := ⟨#[35]⟩

def ObjP (s t i : ByteArray) (w : World) (e : Ending) (w' : World) : Prop := e = .returned (.string s) ∧ w' = w.alloc (.cells #[.string t, .string i] 25)
theorem obj_any (t i : ByteArray) (w : World) (ht : t.size ≤ 262144) (hi : i.size ≤ 262144) : Calls Try.prog 7 #[.agg #[.string t, .string i]] w fun e w' => ObjP (t ++ colon ++ i) t i w e w' := by
  go_enter Try.func7, Try.ntmps7
  go_wp2
  go_ret
  exact ⟨rfl, rfl⟩

set_option maxHeartbeats 1000000 in
theorem sub_bare (t i : ByteArray) (w : World) (ht : t.size ≤ 262144) (hi : i.size ≤ 262144) : Calls Try.prog 6 #[.agg #[.string t, .string i, .string ⟨#[]⟩]] w fun e w' => StrP (t ++ colon ++ i) w e w' := by
  go_enter Try.func6, Try.ntmps6
  go_wp2_with fail
  refine (obj_any t i _ ht hi).mono ?_
  rintro e w1 ⟨rfl, rfl⟩
  go_wp2
  go_ret
  exact ⟨rfl, by repeat (first | exact Grown.refl _ | apply Grown.drew | apply Grown.alloc)⟩

theorem toList_ne (r : ByteArray) (h0 : 0 < r.size) : r.toList.isEmpty = false := by
  rw [Lib.toList_data]
  rw [Lib.size_eq] at h0
  cases h : r.data.toList with
  | nil => rw [h] at h0; simp at h0
  | cons a l => rfl

set_option maxHeartbeats 4000000 in
theorem sub_rel (t i r : ByteArray) (w : World) (ht : t.size ≤ 262144) (hi : i.size ≤ 262144) (hr : r.size ≤ 262144) (h0 : 0 < r.size) : Calls Try.prog 6 #[.agg #[.string t, .string i, .string r]] w fun e w' => StrP (t ++ colon ++ i ++ hash ++ r) w e w' := by
  have hne := toList_ne r h0
  have hcs : colon.size = 1 := rfl
  have hhs : hash.size = 1 := rfl
  go_enter Try.func6, Try.ntmps6
  go_wp2_with fail
  go_region_with (go_at_call 7; refine (obj_any t i _ ht hi).mono ?_; rintro e w1 ⟨rfl, rfl⟩)
  all_goals
    go_wp2
    go_ret
    exact ⟨rfl, by repeat (first | exact Grown.refl _ | apply Grown.drew | apply Grown.alloc)⟩
end Go.Proofs.Qxb6601804a
