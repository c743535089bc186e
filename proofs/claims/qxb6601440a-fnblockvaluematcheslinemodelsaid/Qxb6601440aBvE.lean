/-
  blockValue: the plain function, and its walk.
-/
import Derived.Test.Qxb6601440aBvD
import Derived.Laws.IdiomStrings
namespace Go.Proofs.Qxb6601440a.Bv
open Go.RowKit
set_option linter.unusedVariables false

def text (L : Nat → Nat) (z : Nat → Nat → Int) (i : Nat) : List Int := (List.range (L i)).map (z i)
theorem text_length (L : Nat → Nat) (z : Nat → Nat → Int) (i : Nat) : (text L z i).length = L i := by simp [text]

def sep (f : Bool) (emp : Nat) (sb st wh : Bool) : List Int :=
  if st = false then List.replicate emp 10 else if f = true ∧ wh = false ∧ sb = false then foldL emp else List.replicate (emp + 1) 10

/-- What blockValue holds after i lines: the bytes, the empty lines counted, 'spacedBefore', 'started'. -/
def bs (f : Bool) (E : Nat → Bool) (L : Nat → Nat) (z : Nat → Nat → Int) : Nat → List Int × Nat × Bool × Bool
  | 0 => ([], 0, false, false)
  | i + 1 => if E i = true then ((bs f E L z i).1, (bs f E L z i).2.1 + 1, (bs f E L z i).2.2.1, (bs f E L z i).2.2.2)
    else ((bs f E L z i).1 ++ sep f (bs f E L z i).2.1 (bs f E L z i).2.2.1 (bs f E L z i).2.2.2 (whiteB (z i 0)) ++ text L z i, 0, whiteB (z i 0), true)

theorem sep_length (f : Bool) (emp : Nat) (sb st wh : Bool) : (sep f emp sb st wh).length ≤ emp + 1 := by
  unfold sep
  split
  · simp
  · split
    · unfold foldL
      split
      · simp
      · simp
    · simp

theorem bs_bd (f : Bool) (E : Nat → Bool) (L : Nat → Nat) (z : Nat → Nat → Int) (i : Nat) : (bs f E L z i).1.length + (bs f E L z i).2.1 ≤ sumL L i + i := by
  induction i with
  | zero => simp [bs, sumL]
  | succ i ih =>
    unfold bs
    split
    · show (bs f E L z i).1.length + ((bs f E L z i).2.1 + 1) ≤ _
      rw [sumL_succ]; omega
    · show ((bs f E L z i).1 ++ sep f (bs f E L z i).2.1 (bs f E L z i).2.2.1 (bs f E L z i).2.2.2 (whiteB (z i 0)) ++ text L z i).length + 0 ≤ _
      have := sep_length f (bs f E L z i).2.1 (bs f E L z i).2.2.1 (bs f E L z i).2.2.2 (whiteB (z i 0))
      rw [List.length_append, List.length_append, text_length, sumL_succ]; omega

/-- The lines as blockValue is handed them. -/
def LN (w : World) (lb n : Nat) (A : Nat → Option Addr) (L C : Nat → Nat) (z : Nat → Nat → Int) (E : Nat → Bool) : Prop :=
  ∀ i, i < n → w.cell? ⟨lb, i * 2, none⟩ = some (.slice (A i) (L i) (C i)) ∧ w.cell? ⟨lb, i * 2 + 1, none⟩ = some (.bool (E i)) ∧
    (E i = false → 0 < L i) ∧ (A i = none → L i = 0) ∧ (∀ y, A i = some y → ∀ j, j < L i → w.cell? (y.add j) = some (.int .u8 (z i j)))

theorem sumL_mono (L : Nat → Nat) {a b : Nat} (h : a ≤ b) : sumL L a ≤ sumL L b := by
  induction b with
  | zero => have : a = 0 := by omega
            subst this; exact Nat.le_refl _
  | succ b ih =>
    by_cases e : a = b + 1
    · subst e; exact Nat.le_refl _
    · rw [sumL_succ]; have := ih (by omega); omega

def strOf (xs : List Int) : ByteArray := ⟨(xs.map (fun n => UInt8.ofNat n.toNat)).toArray⟩
theorem foldl_push (xs : List Int) : ∀ r : ByteArray, xs.foldl (fun r n => r.push (UInt8.ofNat n.toNat)) r = ⟨r.data ++ (xs.map (fun n => UInt8.ofNat n.toNat)).toArray⟩ := by
  induction xs with
  | nil => intro r; simp
  | cons x xs ih => intro r; simp only [List.foldl_cons, List.map_cons]; rw [ih]; simp [ByteArray.push]

theorem conv_own {w : World} {B : Nat} {v : Value} {xs : List Int} (h : Own w B v xs) : (convert 38 9 v).run Try.prog w = .ok (.string (strOf xs)) w := by
  have hcells := fun g hg => World.ownsRow.cells h (g := g) hg
  obtain ⟨h1, h2⟩ := h
  rcases h2 with ⟨rfl, hn⟩ | ⟨g, cap, cur, rfl, hb, hgg, hle, hm, hcs, htake⟩
  · have : xs = [] := List.eq_nil_of_length_eq_zero hn
    subst this
    rw [run_convert_bytes_string w 38 9 5 none 0 0 Try.underlying38 Try.underlying5 Try.underlying9]
    rfl
  · rw [run_convert_bytes_string w 38 9 5 _ _ _ Try.underlying38 Try.underlying5 Try.underlying9]
    have hl := run_loadCells_list (P := Try.prog) w ⟨g, 0, none⟩ (xs.map (Value.int .u8)) (hcells g rfl)
    rw [List.length_map] at hl
    rw [run_bytesToString w _ _ _ xs hl, foldl_push]
    have he0 : ByteArray.empty.data = #[] := rfl
    rw [he0, Array.empty_append]
    rfl

theorem box_later {B : Nat} {wr w2 : World} {c : Array Value} (h : St B (wr.alloc (.cells c 46)) w2) (j : Nat) (u : Value) (hu : c[j]? = some u) : w2.cell? ⟨wr.heap.size, j, none⟩ = some u := by
  have e : (wr.alloc (.cells c 46)).heap[wr.heap.size]? = some (.cells c 46) := heap_alloc_new wr _
  have e2 := h.2 _ _ _ _ e (by decide)
  rw [World.cell?_of_block (w := wr.alloc (.cells c 46)) (a := ⟨wr.heap.size, j, none⟩) e2]
  simp [hu]

theorem text_cells {w2 : World} {L : Nat → Nat} {z : Nat → Nat → Int} {i : Nat} {y : Addr} (h : ∀ q, q < L i → w2.cell? (y.add q) = some (.int .u8 (z i q))) :
    ∀ q u, ((text L z i).map (Value.int .u8))[q]? = some u → w2.cell? (y.add q) = some u := by
  intro q u hu
  have hq : q < L i := by
    have := (List.getElem?_eq_some_iff.1 hu).1
    rw [List.length_map, text_length] at this
    exact this
  rw [h q hq]
  simp [text, hq] at hu
  rw [← hu]

theorem bs_empty {f : Bool} {E : Nat → Bool} {L : Nat → Nat} {z : Nat → Nat → Int} {j : Nat} {out : List Int} {emp : Nat} {sb st : Bool} (h : bs f E L z j = (out, emp, sb, st)) (hE : E j = true) :
    bs f E L z (j + 1) = (out, emp + 1, sb, st) := by
  rw [bs, if_pos hE, h]
theorem bs_line {f : Bool} {E : Nat → Bool} {L : Nat → Nat} {z : Nat → Nat → Int} {j : Nat} {out : List Int} {emp : Nat} {sb st : Bool} (h : bs f E L z j = (out, emp, sb, st)) (hE : E j = false) :
    bs f E L z (j + 1) = (out ++ sep f emp sb st (whiteB (z j 0)) ++ text L z j, 0, whiteB (z j 0), true) := by
  rw [bs, if_neg (by simp [hE]), h]

/-- How many breaks stand behind the body. -/
def tcount (ch : Int) (last : Int) (n : Nat) : Nat := if ch = 45 then 0 else if ch = 0 then (if last < 0 then 0 else 1) else (if last < 0 then n else n - last.toNat)

def blockL (f : Bool) (E : Nat → Bool) (L : Nat → Nat) (z : Nat → Nat → Int) (n : Nat) (ch : Int) : List Int :=
  (bs f E L z (lastC E n + 1).toNat).1 ++ List.replicate (tcount ch (lastC E n) n) 10

def StrP (w : World) (xs : List Int) (e : Ending) (w' : World) : Prop := e = .returned (.string (strOf xs)) ∧ Below w.heap.size w w'

theorem lastC_eq (E : Nat → Bool) (n l : Nat) (hl : l < n) (h0 : E l = false) (h1 : ∀ i, l < i → i < n → E i = true) : lastC E n = l := by
  induction n with
  | zero => omega
  | succ n ih =>
    unfold lastC
    by_cases e : n = l
    · subst e; rw [if_neg (by simp [h0])]
    · rw [if_pos (h1 n (by omega) (by omega))]; exact ih (by omega) (fun i a b => h1 i a (by omega))
theorem lastC_none (E : Nat → Bool) (n : Nat) (h : ∀ i, i < n → E i = true) : lastC E n = -1 := by
  induction n with
  | zero => rfl
  | succ n ih => unfold lastC; rw [if_pos (h n (by omega))]; exact ih (fun i hi => h i (by omega))
theorem lastC_cases (E : Nat → Bool) (n : Nat) : (∀ i, i < n → E i = true) ∨ ∃ l, l < n ∧ E l = false ∧ ∀ i, l < i → i < n → E i = true := by
  induction n with
  | zero => left; intro i hi; omega
  | succ n ih =>
    cases hE : E n
    · right; exact ⟨n, by omega, hE, fun i a b => by omega⟩
    · rcases ih with h | ⟨l, a, b, c⟩
      · left; intro i hi
        by_cases e : i = n
        · rw [e]; exact hE
        · exact h i (by omega)
      · right; refine ⟨l, by omega, b, fun i d e => ?_⟩
        by_cases e2 : i = n
        · rw [e2]; exact hE
        · exact c i d (by omega)

end Go.Proofs.Qxb6601440a.Bv
