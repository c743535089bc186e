/-
  Small laws for this seat's walks: byte rows that the call makes; append of one byte; string(bytes); the clone.
-/
import Derived.Test.Qxb6601650aRows
import Derived.Test.Qxb6601650aMath
import Derived.WalkKit
import Derived.WalkSpells
import Derived.ProofKit
import Derived.Deep.OwnRows
import Derived.Laws.IdiomStrings
import Derived.Lib.Strings
import Derived.Lib.IndexBytes
namespace Go.Proofs.Qxb6601650a
open Go.RowKit
set_option linter.unusedVariables false

theorem ret_int {k : IntKind} {a b : Int} (h : a = b) : Ending.returned (.int k a) = .returned (.int k b) := by rw [h]
theorem ret_bool {a b : Bool} (h : a = b) : Ending.returned (.bool a) = .returned (.bool b) := by rw [h]
theorem hide {p : Prop} (h : p) : Hid p := h
theorem unhide {p : Prop} (h : Hid p) : p := h
theorem info5 : (Try.prog.info? 5).map (fun i => (i.zero, i.size, i.bytes)) = some (some (.int .u8 0), 1, 1) := by kernel_rfl
theorem add_plain0 (g j : Nat) : (⟨g, 0, none⟩ : Addr).add j = ⟨g, j, none⟩ := by rw [Addr.add_lit, Nat.zero_add]

/-- A byte cell. -/
def bv (d : Nat) : Value := .int .u8 (d : Int)

/-- A byte slice (nil or not) that reads as z 0, z 1, .. -/
def LX (w : World) (a : Option Addr) (n : Nat) (z : Nat → Nat) : Prop := (a = none → n = 0) ∧ ∀ x, a = some x → ∀ i, i < n → w.cell? (x.add i) = some (.int .u8 (z i : Nat))
theorem LX.later {w w' : World} {a : Option Addr} {n : Nat} {z : Nat → Nat} (h : LX w a n z) (hb : Below w.heap.size w w') : LX w' a n z := ⟨h.1, fun x hx i hi => cell_later hb (h.2 x hx i hi)⟩
theorem LX.some_addr {w : World} {a : Option Addr} {n : Nat} {z : Nat → Nat} (h : LX w a n z) (hn : 0 < n) : ∃ x, a = some x := by
  cases a with
  | none => have := h.1 rfl; omega
  | some x => exact ⟨x, rfl⟩

/-- The value built so far owns these digits. -/
def Own (w : World) (B : Nat) (v : Value) (xs : List Nat) : Prop := w.ownsRow B 5 1 v xs.length (xs.map bv)

theorem Own.step {B : Nat} {w' : World} {v' : Value} {xs ys : List Nat} {n : Nat} (h : w'.ownsRow B 5 1 v' n (xs.map bv ++ ys.map bv)) (hn : n = xs.length + ys.length) : Own w' B v' (xs ++ ys) := by
  unfold Own
  rw [List.map_append, List.length_append, ← hn]
  exact h

theorem Own.shape {w : World} {B : Nat} {v : Value} {xs : List Nat} (h : Own w B v xs) :
    (v = .slice none 0 0 ∧ xs = []) ∨ ∃ g c, v = .slice (some ⟨g, 0, none⟩) xs.length c ∧ B ≤ g ∧ g < w.heap.size := by
  obtain ⟨h1, h2⟩ := h
  rcases h2 with ⟨rfl, hn⟩ | ⟨g, cap, cur, rfl, hb, hgg, hle, hm, hcs, htake⟩
  · exact .inl ⟨rfl, List.eq_nil_of_length_eq_zero hn⟩
  · exact .inr ⟨g, cap, rfl, hb, (Array.getElem?_eq_some_iff.1 hgg).1⟩

theorem Own.cell {w : World} {B g c : Nat} {xs : List Nat} (h : Own w B (.slice (some ⟨g, 0, none⟩) xs.length c) xs) (i : Nat) (hi : i < xs.length) : w.cell? ⟨g, i, none⟩ = some (.int .u8 ((xs[i] : Nat) : Int)) := by
  have := World.ownsRow.cellAt h i (by omega)
  rw [this, List.getElem?_map, List.getElem?_eq_getElem hi]
  rfl
theorem Own.frozen {w : World} {B g c n : Nat} {xs : List Nat} (h : Own w B (.slice (some ⟨g, 0, none⟩) n c) xs) (hn : n = xs.length) (i : Nat) : w.frozen? ⟨g, i, none⟩ = false := by
  subst hn
  exact World.ownsRow.frozenAt h i
theorem Own.set {w : World} {B g c n : Nat} {xs : List Nat} (h : Own w B (.slice (some ⟨g, 0, none⟩) n c) xs) (hn : n = xs.length) (i d : Nat) : Own (w.setCell ⟨g, i, none⟩ (bv d)) B (.slice (some ⟨g, 0, none⟩) n c) (xs.set i d) := by
  subst hn
  have := (World.ownsRow.stored h i (bv d)).1
  unfold Own
  rw [List.length_set, List.map_set]
  exact this

theorem one_cell {w : World} {t : TypeId} (u : Value) : ∀ j x, [u][j]? = some x → (w.alloc (.cells #[u] t)).cell? ((⟨w.heap.size, 0, none⟩ : Addr).add j) = some x := by
  intro j x hj
  match j, hj with
  | 0, hj => simp at hj; subst hj; simp [Addr.add]

theorem wpList_app_one {ops : Array Oper} {rest : List Oper} {o : Oper} {a : Act} {Q : Exit → Act → World → Prop} (hgd : o.guard = none) (s x : Operand)
    (ho : o.op = .call { callee := .builtin .append, args := #[s, x], argTypes := #[22, 22] }) (B : Nat) (v : Value) (xs : List Nat) (d : Nat) (c : Int) (wr : World)
    (hs : a.eval s = v) (hx : a.eval x = .slice (some ⟨wr.heap.size, 0, none⟩) 1 1) (hown : Hid (Own wr B v xs)) (hB : B ≤ wr.heap.size) (hlen : xs.length ≤ 9999999) (hc : c = (d : Int))
    (h : ∀ v' w', Hid (Own w' B v' (xs ++ [d])) → Hid (Below B wr w') → wpList Try.prog ops Q rest (a.put o.dst v') w') :
    wpList Try.prog ops Q (o :: rest) a (wr.alloc (.cells #[.int .u8 c] 5)) := by
  subst hc
  obtain ⟨i0, hi, hz0, hz1, hz2⟩ := info_parts info5
  refine wpList_append_own _ hgd s x 22 ho B 5 i0 (.int .u8 0) 1 1 Try.underlying22 hi hz0 hz1 hz2 rfl (by decide) v _ _ hs (World.ownsRow.alloc (unhide hown) _) ⟨wr.heap.size, 0, none⟩ 1 1 [.int .u8 (d : Int)] hx rfl (one_cell _) ?_ ?_ ?_ ?_ ?_
  · intro u hu; simp at hu; subst hu; rfl
  · simp [maxLen]; omega
  · omega
  · simp; omega
  · intro v' w' h1 h2 _
    exact h v' w' (Own.step (xs := xs) (ys := [d]) h1 rfl) (((Below.refl B wr).alloc hB _).trans ((Below.refl _ _).grown h2 (by simp; omega) (fun k hk => (World.ownsRow.lt (unhide hown) k hk).1)))

/-- string(bytes). -/
def strOf (xs : List Nat) : ByteArray := ⟨(xs.map (fun n => UInt8.ofNat n)).toArray⟩
theorem foldl_push (xs : List Int) : ∀ r : ByteArray, xs.foldl (fun r n => r.push (UInt8.ofNat n.toNat)) r = ⟨r.data ++ (xs.map (fun n => UInt8.ofNat n.toNat)).toArray⟩ := by
  induction xs with
  | nil => intro r; simp
  | cons x xs ih => intro r; simp only [List.foldl_cons, List.map_cons]; rw [ih]; simp [ByteArray.push]
theorem conv_row {w : World} {g n : Nat} {F : Nat → Nat} (h : w.rowIs g 5 n (fun j => bv (F j))) : (convert 22 9 (.slice (some ⟨g, 0, none⟩) n n)).run Try.prog w = .ok (.string (strOf ((List.range n).map F))) w := by
  rw [run_convert_bytes_string w 22 9 5 _ _ _ Try.underlying22 Try.underlying5 Try.underlying9]
  have hl := run_loadCells (P := Try.prog) w ⟨g, 0, none⟩ n (fun j => bv (F j)) (fun j hj => by rw [add_plain0]; exact h.cell hj)
  have e : (List.range n).map (fun j => bv (F j)) = (((List.range n).map (fun j => ((F j : Nat) : Int))).map (Value.int .u8)) := by
    rw [List.map_map]; rfl
  rw [e] at hl
  rw [run_bytesToString w _ _ _ _ hl, foldl_push]
  have he0 : ByteArray.empty.data = #[] := rfl
  rw [he0, Array.empty_append]
  unfold strOf
  rw [List.map_map, List.map_map]
  rfl

theorem strOf_data (xs : List Nat) : (strOf xs).data.toList = xs.map (fun n => UInt8.ofNat n) := by simp [strOf]
theorem strOf_size (xs : List Nat) : (strOf xs).size = xs.length := by rw [Lib.size_eq, strOf_data, List.length_map]
theorem strOf_at (xs : List Nat) (h256 : ∀ d ∈ xs, d < 256) (i : Nat) (h : i < (strOf xs).size) (h' : i < xs.length) : (((strOf xs)[i]'h).toNat : Int) = ((xs[i] : Nat) : Int) := by
  have hd := Lib.data_getElem? (strOf xs) i h
  rw [strOf_data, List.getElem?_map, List.getElem?_eq_getElem h'] at hd
  simp only [Option.map_some, Option.some.injEq] at hd
  rw [← hd]
  have := h256 xs[i] (List.getElem_mem h')
  rw [UInt8.toNat_ofNat']
  have e : xs[i] % 2 ^ 8 = xs[i] := Nat.mod_eq_of_lt (by omega)
  rw [e]

theorem row_step {w : World} {b t n k : Nat} {z : Nat → Value} {z0 : Value} (h : w.rowIs b t n (fun j => if j < k then z j else z0)) :
    (w.setCell ⟨b, k, none⟩ (z k)).rowIs b t n (fun j => if j < k + 1 then z j else z0) := by
  refine (h.set k (z k)).congr fun j hj => ?_
  by_cases e : j = k
  · subst e; simp
  · by_cases h2 : j < k
    · simp [e, h2, show j < k + 1 by omega]
    · simp [e, h2, show ¬ j < k + 1 by omega]

/-! ### zzBytes and the clone -/
def CloneP (w : World) (n : Nat) (z : Nat → Nat) (e : Ending) (w' : World) : Prop := ∃ a', e = .returned (.slice a' n n) ∧ LX w' a' n z ∧ Below w.heap.size w w'

theorem clone_nil (w : World) (z : Nat → Nat) : Calls Try.prog 7 #[.slice none 0 0] w fun e w' => CloneP w 0 z e w' := by
  have q22 : ∀ (w : World) (a : Option Addr) (n c n' c' : Nat), (binOp .eql 22 (.slice a n c) (.slice none n' c')).run Try.prog w = .ok (.bool a.isNone) w := fun w a n c n' c' => Lib.run_eql_slice_nil w _ _ a n c n' c' Try.underlying22
  go_enter Try.func7, Try.ntmps7
  go_wp2
  go_ret
  exact ⟨none, rfl, ⟨fun _ => rfl, fun x hx => by cases hx⟩, Below.refl _ _⟩

set_option maxHeartbeats 400000 in
theorem clone_some (x : Addr) (n cap : Nat) (z : Nat → Nat) (w : World) (hl : n ≤ 1048576) (hc : ∀ j, j < n → w.cell? (x.add j) = some (.int .u8 (z j : Nat))) :
    Calls Try.prog 7 #[.slice (some x) n cap] w fun e w' => CloneP w n z e w' := by
  have q22 : ∀ (w : World) (a : Option Addr) (n c n' c' : Nat), (binOp .eql 22 (.slice a n c) (.slice none n' c')).run Try.prog w = .ok (.bool a.isNone) w := fun w a n c n' c' => Lib.run_eql_slice_nil w _ _ a n c n' c' Try.underlying22
  have hmk := run_make_row' (P := Try.prog) 22 5 (.int .u8 0) 1 Try.underlying22 info5 rfl .i64 .i64 n (by omega) (by omega)
  have hrow := World.rowIs_made w (.int .u8 0) n 5
  have hbel : Below w.heap.size w (w.alloc (.cells (madeCells #[.int .u8 0] n) 5)) := (Below.refl _ _).alloc (Nat.le_refl _) _
  go_enter Try.func7, Try.ntmps7
  go_wp2
  go_loopw [4] (fun i wr => ∃ k : Nat, k ≤ n ∧ i = .int .i64 k ∧ wr.rowIs w.heap.size 5 n (fun j => if j < k then .int .u8 (z j : Nat) else .int .u8 0) ∧ Below w.heap.size w wr) (fun i _ => n - (intOf i).toNat)
  case atStart => exact ⟨0, by omega, rfl, hrow.congr (fun i hi => by simp), hbel⟩
  case round =>
    obtain ⟨k, hk, rfl, hrw, hb⟩ := hrel
    clear hmk hrow hbel
    by_cases hlt : k < n
    · have h1 : wr.cell? (x.add k) = some (.int .u8 (z k : Nat)) := cell_later hb (hc k hlt)
      have h2 := hrw.cell hlt
      have h3 := hrw.frozen k
      simp only [Nat.lt_irrefl, if_false] at h2
      go_wp2
      go_roundw
      case rel => exact ⟨k + 1, by omega, by go_num, row_step (z := fun j => .int .u8 (z j : Nat)) hrw, hb.setCell (Nat.le_refl _) _⟩
      case measure => simp [intOf]; omega
    · go_wp2
      go_ret
      refine ⟨some ⟨w.heap.size, 0, none⟩, rfl, ⟨fun h => (by cases h), fun y hy i hi => ?_⟩, hb⟩
      cases hy
      rw [add_plain0, hrw.cell hi, if_pos (by omega)]

theorem clone_any (a : Option Addr) (n cap : Nat) (z : Nat → Nat) (w : World) (hl : n ≤ 1048576) (ha : a = none → cap = 0) (hx : LX w a n z) :
    Calls Try.prog 7 #[.slice a n cap] w fun e w' => CloneP w n z e w' := by
  cases a with
  | none => obtain rfl := hx.1 rfl; obtain rfl := ha rfl; exact clone_nil w z
  | some x => exact clone_some x n cap z w hl (hx.2 x rfl)

theorem zz6_any (a : Option Addr) (len cap : Nat) (w : World) (hl : len ≤ maxLen) :
    Calls Try.prog 6 #[.slice a len cap] w fun e w' => e = .returned (.bool (decide (len ≤ 1048576))) ∧ w' = w := by
  unfold maxLen at hl
  by_cases h : len ≤ 1048576
  · go_enter Try.func6, Try.ntmps6
    go_wp2
    go_ret
    exact ⟨ret_bool (by simp [h]), rfl⟩
  · go_enter Try.func6, Try.ntmps6
    go_wp2
    go_ret
    exact ⟨ret_bool (by simp [h]), rfl⟩
theorem zz10_any (a : Option Addr) (len cap : Nat) (w : World) (hl : len ≤ maxLen) :
    Calls Try.prog 10 #[.slice a len cap] w fun e w' => e = .returned (.bool (decide (len ≤ 1048576))) ∧ w' = w := by
  unfold maxLen at hl
  by_cases h : len ≤ 1048576
  · go_enter Try.func10, Try.ntmps10
    go_wp2
    go_ret
    exact ⟨ret_bool (by simp [h]), rfl⟩
  · go_enter Try.func10, Try.ntmps10
    go_wp2
    go_ret
    exact ⟨ret_bool (by simp [h]), rfl⟩
end Go.Proofs.Qxb6601650a
