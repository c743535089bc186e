/-
  The plain law behind FnBlockValueMatchesLineModel: the body that blockValue builds is the literal join, or the literal join edited by folding. No Go in sight.
-/
import Derived.Test.Qxb6601440aBvE
namespace Go.Proofs.Qxb6601440a.Bv
open Go.RowKit
set_option linter.unusedVariables false

/-- bvLiteral after i lines. -/
def lit (E : Nat → Bool) (L : Nat → Nat) (z : Nat → Nat → Int) : Nat → List Int
  | 0 => []
  | i + 1 => lit E L z i ++ (if 0 < i then [10] else []) ++ (if E i = true then [] else text L z i)

theorem lit_len (E : Nat → Bool) (L : Nat → Nat) (z : Nat → Nat → Int) (i : Nat) : (lit E L z i).length ≤ sumL L i + i := by
  induction i with
  | zero => simp [lit]
  | succ i ih =>
    unfold lit
    rw [sumL_succ, List.length_append, List.length_append]
    have h1 : (if 0 < i then [(10 : Int)] else []).length ≤ 1 := by split <;> simp
    have h2 : (if E i = true then [] else text L z i).length ≤ L i := by
      split
      · simp
      · rw [text_length]; exact Nat.le_refl _
    omega

theorem lit_mono (E : Nat → Bool) (L : Nat → Nat) (z : Nat → Nat → Int) {i j : Nat} (h : i ≤ j) : (lit E L z i).length ≤ (lit E L z j).length := by
  induction j with
  | zero => have : i = 0 := by omega
            subst this; exact Nat.le_refl _
  | succ j ih =>
    by_cases e : i = j + 1
    · subst e; exact Nat.le_refl _
    · have := ih (by omega)
      have e2 : lit E L z (j + 1) = lit E L z j ++ (if 0 < j then [10] else []) ++ (if E j = true then [] else text L z j) := rfl
      rw [e2, List.length_append, List.length_append]; omega

/-- 'prev' after i lines: the last content line before line i. -/
abbrev prevC := lastC

/-- The state of bvFoldEdit's first loop after i lines. -/
def marks (E : Nat → Bool) (L : Nat → Nat) (z : Nat → Nat → Int) : Nat → Nat → Int
  | 0 => fun _ => 0
  | i + 1 => if E i = true then marks E L z i
    else if 0 ≤ lastC E i ∧ whiteB (z (lastC E i).toNat 0) = false ∧ whiteB (z i 0) = false then
      fun k => if k = (lit E L z (lastC E i + 1).toNat).length then (if (i : Int) - lastC E i - 1 = 0 then 1 else 2) else marks E L z i k
    else marks E L z i

/-- A text edited by its marks, from position o on. -/
def ed (m : Nat → Int) : Nat → List Int → List Int
  | _, [] => []
  | o, x :: xs => (if m o = 0 then [x] else if m o = 1 then [32] else []) ++ ed m (o + 1) xs

theorem ed_append (m : Nat → Int) (xs ys : List Int) : ∀ o, ed m o (xs ++ ys) = ed m o xs ++ ed m (o + xs.length) ys := by
  induction xs with
  | nil => intro o; simp [ed]
  | cons x xs ih =>
    intro o
    simp only [List.cons_append, ed, ih, List.append_assoc, List.length_cons]
    rw [show o + 1 + xs.length = o + (xs.length + 1) by omega]

theorem ed_congr (m m' : Nat → Int) (xs : List Int) : ∀ o, (∀ k, o ≤ k → k < o + xs.length → m k = m' k) → ed m o xs = ed m' o xs := by
  induction xs with
  | nil => intro o _; rfl
  | cons x xs ih =>
    intro o h
    simp only [ed]
    rw [h o (by omega) (by simp), ih (o + 1) (fun k h1 h2 => h k (by omega) (by simp; omega))]

theorem ed_zero (m : Nat → Int) (xs : List Int) : ∀ o, (∀ k, o ≤ k → k < o + xs.length → m k = 0) → ed m o xs = xs := by
  induction xs with
  | nil => intro o _; rfl
  | cons x xs ih =>
    intro o h
    simp only [ed]
    rw [if_pos (h o (by omega) (by simp)), ih (o + 1) (fun k h1 h2 => h k (by omega) (by simp; omega))]
    rfl

theorem lastC_empty (E : Nat → Bool) (i : Nat) (h : E i = true) : lastC E (i + 1) = lastC E i := by rw [lastC, if_pos h]
theorem lastC_line (E : Nat → Bool) (i : Nat) (h : E i = false) : lastC E (i + 1) = i := by rw [lastC, if_neg (by simp [h])]
theorem lit_empty (E : Nat → Bool) (L : Nat → Nat) (z : Nat → Nat → Int) (i : Nat) (h : E i = true) : lit E L z (i + 1) = lit E L z i ++ (if 0 < i then [10] else []) := by rw [lit, if_pos h, List.append_nil]
theorem lit_line (E : Nat → Bool) (L : Nat → Nat) (z : Nat → Nat → Int) (i : Nat) (h : E i = false) : lit E L z (i + 1) = lit E L z i ++ (if 0 < i then [10] else []) ++ text L z i := by rw [lit, h]; rfl

theorem sep_first' {f : Bool} {emp : Nat} {sb wh : Bool} : sep f emp sb false wh = List.replicate emp 10 := by unfold sep; rw [if_pos rfl]
theorem sep_fold' {f : Bool} {emp : Nat} {sb wh : Bool} (h1 : f = true) (h2 : sb = false) (h3 : wh = false) : sep f emp sb true wh = foldL emp := by unfold sep; rw [if_neg (by simp), if_pos ⟨h1, h3, h2⟩]
theorem sep_plain' {f : Bool} {emp : Nat} {sb wh : Bool} (h : ¬ (f = true ∧ wh = false ∧ sb = false)) : sep f emp sb true wh = List.replicate (emp + 1) 10 := by unfold sep; rw [if_neg (by simp), if_neg h]

/-- What stands after i lines, no content yet. -/
theorem before (f : Bool) (E : Nat → Bool) (L : Nat → Nat) (z : Nat → Nat → Int) (i : Nat) (h : lastC E i < 0) :
    bs f E L z i = ([], i, false, false) ∧ lit E L z i = List.replicate (i - 1) 10 ∧ ∀ k, marks E L z i k = 0 := by
  induction i with
  | zero => exact ⟨rfl, rfl, fun _ => rfl⟩
  | succ i ih =>
    cases hE : E i
    · rw [lastC_line E i hE] at h; omega
    · rw [lastC_empty E i hE] at h
      obtain ⟨h1, h2, h3⟩ := ih h
      refine ⟨bs_empty h1 hE, ?_, ?_⟩
      · rw [lit_empty E L z i hE, h2]
        by_cases e : 0 < i
        · rw [if_pos e, ← List.replicate_succ']
          congr 1; omega
        · have : i = 0 := by omega
          subst this; rfl
      · intro k
        rw [marks, if_pos hE]
        exact h3 k

/-- What stands after i lines, content before. -/
theorem after (f : Bool) (E : Nat → Bool) (L : Nat → Nat) (z : Nat → Nat → Int) (i : Nat) (h : 0 ≤ lastC E i) :
    ∃ out, bs f E L z i = (out, (i - 1 - lastC E i).toNat, whiteB (z (lastC E i).toNat 0), true) ∧
      lit E L z i = lit E L z (lastC E i + 1).toNat ++ List.replicate (i - 1 - lastC E i).toNat 10 ∧
      (∀ k, (lit E L z (lastC E i + 1).toNat).length ≤ k → marks E L z i k = 0) ∧
      (f = true → out = ed (marks E L z i) 0 (lit E L z (lastC E i + 1).toNat)) ∧ (f = false → out = lit E L z (lastC E i + 1).toNat) := by
  induction i with
  | zero => exact absurd h (by show ¬ (0 : Int) ≤ -1; omega)
  | succ i ih =>
    cases hE : E i
    · -- a content line
      have hl := lastC_line E i hE
      rw [hl]
      have e0 : (((i + 1 : Nat) : Int) - 1 - (i : Int)).toNat = 0 := by omega
      have e1 : ((i : Int) + 1).toNat = i + 1 := by omega
      rw [e0, e1, Int.toNat_natCast, List.replicate_zero, List.append_nil]
      by_cases hp : 0 ≤ lastC E i
      · obtain ⟨out, b1, b2, b3, b4, b5⟩ := ih hp
        have hbd := lastC_bd E i
        have hi0 : 0 < i := by omega
        have hL := lit_line E L z i hE
        rw [if_pos hi0] at hL
        generalize hq : (i - 1 - lastC E i).toNat = emp at *
        generalize hpl : lit E L z (lastC E i + 1).toNat = pl at *
        have hL2 : lit E L z (i + 1) = pl ++ (List.replicate (emp + 1) 10 ++ text L z i) := by
          rw [hL, b2, List.append_assoc, List.append_assoc, List.replicate_succ', List.append_assoc]
        have hb := bs_line b1 hE
        by_cases hc : whiteB (z (lastC E i).toNat 0) = false ∧ whiteB (z i 0) = false
        · -- the mark
          have hm : marks E L z (i + 1) = fun k => if k = pl.length then (if (i : Int) - lastC E i - 1 = 0 then 1 else 2) else marks E L z i k := by
            rw [marks, if_neg (by simp [hE]), if_pos ⟨hp, hc.1, hc.2⟩, hpl]
          refine ⟨_, hb, rfl, ?_, ?_, ?_⟩
          · intro k hk
            rw [hL2, List.length_append, List.length_append, List.length_replicate] at hk
            rw [hm]
            show (if k = pl.length then _ else _) = _
            rw [if_neg (by omega)]
            exact b3 k (by omega)
          · intro hf
            rw [hL2, ed_append, Nat.zero_add, hm]
            have c1 : ed (fun k => if k = pl.length then (if (i : Int) - lastC E i - 1 = 0 then (1 : Int) else 2) else marks E L z i k) 0 pl = out := by
              rw [b4 hf]
              exact ed_congr _ _ _ _ (fun k h1 h2 => if_neg (by omega))
            rw [c1, sep_fold' hf hc.1 hc.2, List.replicate_succ, List.cons_append, ed, List.append_assoc]
            congr 1
            have c2 : ed (fun k => if k = pl.length then (if (i : Int) - lastC E i - 1 = 0 then (1 : Int) else 2) else marks E L z i k) (pl.length + 1) (List.replicate emp 10 ++ text L z i) = List.replicate emp 10 ++ text L z i :=
              ed_zero _ _ _ (fun k h1 h2 => by
                show (if k = pl.length then _ else _) = _
                rw [if_neg (by omega)]
                exact b3 k (by omega))
            rw [c2]
            by_cases e : emp = 0
            · have hi1 : (i : Int) - lastC E i - 1 = 0 := by omega
              simp [hi1, e, foldL]
            · have hi1 : ¬ (i : Int) - lastC E i - 1 = 0 := by omega
              simp [hi1, e, foldL]
          · intro hf
            rw [hL2, b5 hf, sep_plain' (by rw [hf]; simp), List.append_assoc]
        · have hm : marks E L z (i + 1) = marks E L z i := by
            rw [marks, if_neg (by simp [hE]), if_neg (fun h => hc h.2)]
          refine ⟨_, hb, rfl, ?_, ?_, ?_⟩
          · intro k hk
            rw [hL2, List.length_append] at hk
            rw [hm]
            exact b3 k (by omega)
          · intro hf
            rw [hL2, ed_append, Nat.zero_add, hm, ← b4 hf, ed_zero _ _ _ (fun k h1 h2 => b3 k (by omega)), sep_plain' (fun h => hc ⟨h.2.2, h.2.1⟩), List.append_assoc]
          · intro hf
            rw [hL2, b5 hf, sep_plain' (by rw [hf]; simp), List.append_assoc]
      · obtain ⟨b1, b2, b3⟩ := before f E L z i (by omega)
        have hb := bs_line b1 hE
        have hm : marks E L z (i + 1) = marks E L z i := by
          rw [marks, if_neg (by simp [hE]), if_neg (fun h => hp h.1)]
        have hL : lit E L z (i + 1) = List.replicate i 10 ++ text L z i := by
          rw [lit_line E L z i hE, b2]
          congr 1
          by_cases e : 0 < i
          · rw [if_pos e, ← List.replicate_succ']; congr 1; omega
          · have : i = 0 := by omega
            subst this; rfl
        rw [sep_first'] at hb
        refine ⟨_, hb, rfl, ?_, ?_, ?_⟩
        · intro k _; rw [hm]; exact b3 k
        · intro _; rw [hL, hm, ed_zero _ _ _ (fun k _ _ => b3 k)]; rfl
        · intro _; rw [hL]; rfl
    · -- an empty line
      have hl := lastC_empty E i hE
      rw [hl] at h ⊢
      obtain ⟨out, b1, b2, b3, b4, b5⟩ := ih h
      have hbd := lastC_bd E i
      have hi0 : 0 < i := by omega
      have e1 : (((i + 1 : Nat) : Int) - 1 - lastC E i).toNat = (i - 1 - lastC E i).toNat + 1 := by omega
      have hm : marks E L z (i + 1) = marks E L z i := by rw [marks, if_pos hE]
      rw [e1, hm]
      refine ⟨out, bs_empty b1 hE, ?_, b3, b4, b5⟩
      rw [lit_empty E L z i hE, if_pos hi0, b2, List.append_assoc, ← List.replicate_succ']

/-- The body is the model's content. -/
theorem body_eq (f : Bool) (E : Nat → Bool) (L : Nat → Nat) (z : Nat → Nat → Int) (n : Nat) :
    (bs f E L z (lastC E n + 1).toNat).1 = if f = true then ed (marks E L z (lastC E n + 1).toNat) 0 (lit E L z (lastC E n + 1).toNat) else lit E L z (lastC E n + 1).toNat := by
  rcases lastC_cases E n with h | ⟨l, h1, h2, h3⟩
  · rw [lastC_none E n h]
    cases f <;> rfl
  · rw [lastC_eq E n l h1 h2 h3]
    have e1 : ((l : Int) + 1).toNat = l + 1 := by omega
    rw [e1]
    have hl := lastC_line E l h2
    obtain ⟨out, b1, _, _, b4, b5⟩ := after f E L z (l + 1) (by rw [hl]; omega)
    rw [hl, e1] at b4 b5
    rw [b1]
    show out = _
    cases f
    · rw [if_neg (by simp)]; exact b5 rfl
    · rw [if_pos rfl]; exact b4 rfl
end Go.Proofs.Qxb6601440a.Bv
