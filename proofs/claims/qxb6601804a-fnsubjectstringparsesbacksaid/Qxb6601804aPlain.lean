/-
  The subject's text read back: the plain laws.
-/
import Derived.Test.Qxb6601804aKit
namespace Go.Proofs.Qxb6601804a
open Go.RowKit Go.PlainAid
set_option linter.unusedVariables false

def btL (l : List UInt8) (k : Nat) : Int := match l[k]? with
  | some b => (b.toNat : Int)
  | none => 0
theorem bt_list (s : ByteArray) (k : Nat) : bt s k = btL s.data.toList k := by
  unfold btL
  by_cases h : k < s.size
  · rw [Lib.data_getElem? s k h, ← get_bt s k h]
  · rw [bt_end s (by omega), List.getElem?_eq_none (by rw [← Lib.size_eq]; omega)]
theorem data_app (a b : ByteArray) : (a ++ b).data.toList = a.data.toList ++ b.data.toList := by
  rw [ByteArray.data_append, Array.toList_append]
theorem bt_left (a b : ByteArray) (k : Nat) (h : k < a.size) : bt (a ++ b) k = bt a k := by
  rw [Lib.size_eq] at h
  rw [bt_list, bt_list, data_app]
  unfold btL
  rw [List.getElem?_append_left h]
theorem bt_right (a b : ByteArray) (k : Nat) : bt (a ++ b) (a.size + k) = bt b k := by
  rw [Lib.size_eq, bt_list, bt_list, data_app]
  unfold btL
  rw [List.getElem?_append_right (by omega), Nat.add_sub_cancel_left]

/-- A text cut at one byte. -/
structure CutAt (x a b : ByteArray) (c : Int) : Prop where
  size : x.size = a.size + 1 + b.size
  mid : bt x a.size = c
  low : ∀ i, i < a.size → bt x i = bt a i
  front : x.extract 0 a.size = a
  rest : x.extract (a.size + 1) x.size = b
theorem cutAt (a m b : ByteArray) (hm : m.size = 1) : CutAt (a ++ m ++ b) a b (bt m 0) := by
  have hsz : (a ++ m ++ b).size = a.size + 1 + b.size := by rw [ByteArray.size_append', ByteArray.size_append', hm]
  have hd : (a ++ m ++ b).data.toList = a.data.toList ++ (m.data.toList ++ b.data.toList) := by rw [data_app, data_app, List.append_assoc]
  have hml : m.data.toList.length = 1 := by rw [← Lib.size_eq]; exact hm
  refine ⟨hsz, ?_, fun i hi => ?_, ?_, ?_⟩
  · rw [bt_left _ _ _ (by rw [ByteArray.size_append', hm]; omega)]
    exact bt_right a m 0
  · rw [bt_left _ _ _ (by rw [ByteArray.size_append', hm]; omega), bt_left _ _ _ hi]
  · rw [Lib.extract_eq, hd, Lib.size_eq, List.drop_zero, Nat.sub_zero, List.take_left' rfl]
  · rw [Lib.extract_eq, hsz, hd]
    have e : (a.data.toList ++ (m.data.toList ++ b.data.toList)).drop (a.size + 1) = b.data.toList := by
      rw [← List.append_assoc, List.drop_left']
      rw [List.length_append, hml, ← Lib.size_eq]
    rw [e, List.take_of_length_le (by rw [← Lib.size_eq]; omega)]

theorem CutAt.find {x a b : ByteArray} {c : Int} (h : CutAt x a b c) (hno : ∀ i, i < a.size → bt a i ≠ c) {r : Int} (hf : FI x c r) : r = a.size :=
  hf.some a.size (by have := h.size; omega) h.mid (fun i hi => by rw [h.low i hi]; exact hno i hi)

theorem app4 (t c i h r : ByteArray) : t ++ c ++ i ++ h ++ r = t ++ c ++ (i ++ h ++ r) := by
  apply ByteArray.ext
  simp [ByteArray.data_append, Array.append_assoc]

def BoolP (w : World) (e : Ending) (w' : World) : Prop := ∃ b : Bool, e = .returned (.bool b) ∧ w' = w
set_option maxHeartbeats 1000000 in
theorem zz_any (a0 a1 a2 : ByteArray) (w : World) (h0 : a0.size ≤ maxLen) (h1 : a1.size ≤ maxLen) (h2 : a2.size ≤ maxLen) :
    Calls Try.prog 4 #[.string a0, .string a1, .string a2] w fun e w' => BoolP w e w' := by
  unfold maxLen at h0 h1 h2
  go_enter Try.func4, Try.ntmps4
  go_wp2
  all_goals
    go_ret
    exact ⟨_, rfl, rfl⟩
end Go.Proofs.Qxb6601804a
