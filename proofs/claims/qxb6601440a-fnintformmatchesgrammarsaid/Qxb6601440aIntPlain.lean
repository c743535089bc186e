/-
  The plain law behind FnIntFormMatchesGrammar: at most one of the five forms matches, and intForm answers that one.
-/
import Derived.Test.Qxb6601440aIntMatch
namespace Go.Proofs.Qxb6601440a
open Go.RowKit
open Go.PlainAid (bt get_bt bt_nonneg bt_le)
set_option linter.unusedVariables false

theorem bt_data (s : ByteArray) (i : Nat) : bt s i = ((s.data.toList.getD i 0).toNat : Int) := by
  by_cases h : i < s.size
  · rw [← get_bt s i h, List.getD_eq_getElem?_getD, Lib.data_getElem? s i h]
    rfl
  · rw [Go.PlainAid.bt_end s (by omega), List.getD_eq_getElem?_getD, List.getElem?_eq_none (by rw [← Lib.size_eq]; omega)]
    rfl

theorem bt_inj {s p : ByteArray} {i : Nat} (hs : i < s.size) (hp : i < p.size) (h : bt s i = bt p i) : s.data.toList[i]? = p.data.toList[i]? := by
  rw [Lib.data_getElem? s i hs, Lib.data_getElem? p i hp]
  rw [← get_bt s i hs, ← get_bt p i hp] at h
  congr 1
  apply UInt8.toNat_inj.1
  omega

theorem hasPB_iff (s p : ByteArray) : hasPB s p = true ↔ p.size ≤ s.size ∧ ∀ i, i < p.size → bt s i = bt p i := by
  unfold hasPB
  rw [Bool.and_eq_true, decide_eq_true_iff, beq_iff_eq, Lib.extract_toList, Lib.toList_data]
  constructor
  · rintro ⟨h1, h2⟩
    refine ⟨h1, fun i hi => ?_⟩
    rw [bt_data, bt_data, ← h2]
    simp only [List.drop_zero, Nat.sub_zero, List.getD_eq_getElem?_getD, List.getElem?_take, if_pos hi]
  · rintro ⟨h1, h2⟩
    refine ⟨h1, List.ext_getElem? fun i => ?_⟩
    simp only [List.drop_zero, Nat.sub_zero, List.getElem?_take]
    by_cases hi : i < p.size
    · rw [if_pos hi]
      exact bt_inj (by omega) hi (h2 i hi)
    · rw [if_neg hi, List.getElem?_eq_none (by rw [← Lib.size_eq]; omega)]

theorem okDig_iff (base b : Int) (hb : base = 8 ∨ base = 10 ∨ base = 16) : okDig base b = true ↔ 0 ≤ digV b ∧ digV b < base := by
  unfold okDig digV
  rcases hb with rfl | rfl | rfl
  · rw [if_neg (by omega), decide_eq_true_iff]
    repeat' split
    all_goals omega
  · rw [if_neg (by omega), decide_eq_true_iff]
    repeat' split
    all_goals omega
  · rw [if_pos rfl]
    unfold hexB
    rw [decide_eq_true_iff]
    repeat' split
    all_goals omega

theorem allOk_iff (d : ByteArray) (base : Int) (hb : base = 8 ∨ base = 10 ∨ base = 16) : allOk d base = true ↔ ∀ k, k < d.size → 0 ≤ digV (bt d k) ∧ digV (bt d k) < base := by
  unfold allOk
  rw [decide_eq_true_iff]
  exact ⟨fun h k hk => (okDig_iff base _ hb).1 (h k hk), fun h k hk => (okDig_iff base _ hb).2 (h k hk)⟩

theorem matchB_iff (s p : ByteArray) (base : Int) (hb : base = 8 ∨ base = 10 ∨ base = 16) :
    matchB s p base = true ↔ p.size < s.size ∧ (∀ i, i < p.size → bt s i = bt p i) ∧ allOk (s.extract p.size s.size) base = true := by
  unfold matchB
  rw [decide_eq_true_iff, allOk_iff _ _ hb]

theorem bases_ok (k : Nat) : bases k = 8 ∨ bases k = 10 ∨ bases k = 16 := by
  match k with
  | 0 => exact .inl rfl
  | 1 => exact .inr (.inr rfl)
  | _ + 2 => exact .inr (.inl rfl)

def mB (s : ByteArray) (k : Nat) : Bool := matchB s (pfxs k) (bases k)
def ext (s : ByteArray) (k : Nat) : ByteArray := s.extract (pfxs k).size s.size

theorem mB_false_of (s : ByteArray) (k : Nat) (i : Nat) (hi : i < (pfxs k).size) (h : bt s i ≠ bt (pfxs k) i) : mB s k = false := by
  rw [Bool.eq_false_iff]
  intro hm
  exact h (((matchB_iff _ _ _ (bases_ok k)).1 hm).2.1 i hi)
theorem extract_all (s : ByteArray) : s.extract 0 s.size = s := by
  rw [Lib.extract_eq, List.drop_zero, Nat.sub_zero, List.take_of_length_le (by rw [← Lib.size_eq]; exact Nat.le_refl _)]
theorem mB4_false_of (s : ByteArray) (i : Nat) (hi : i < s.size) (h : digV (bt s i) < 0) : mB s 4 = false := by
  rw [Bool.eq_false_iff]
  intro hm
  have := ((matchB_iff _ _ _ (bases_ok 4)).1 hm).2.2
  rw [allOk_iff _ _ (bases_ok 4)] at this
  have h2 := this i (by show i < (s.extract 0 s.size).size; rw [extract_all]; exact hi)
  have e : s.extract (pfxs 4).size s.size = s := extract_all s
  rw [e] at h2
  omega

theorem bt_lo0 : bt (pfxs 0) 0 = 48 := by rw [bt_data]; rfl
theorem bt_lo1 : bt (pfxs 0) 1 = 111 := by rw [bt_data]; rfl
theorem bt_lx0 : bt (pfxs 1) 0 = 48 := by rw [bt_data]; rfl
theorem bt_lx1 : bt (pfxs 1) 1 = 120 := by rw [bt_data]; rfl
theorem bt_p0 : bt (pfxs 2) 0 = 43 := by rw [bt_data]; rfl
theorem bt_m0 : bt (pfxs 3) 0 = 45 := by rw [bt_data]; rfl
theorem sz0 : (pfxs 0).size = 2 := rfl
theorem sz1 : (pfxs 1).size = 2 := rfl
theorem sz2 : (pfxs 2).size = 1 := rfl
theorem sz3 : (pfxs 3).size = 1 := rfl
theorem sz4 : (pfxs 4).size = 0 := rfl

theorem ext_size (s : ByteArray) (k : Nat) : (ext s k).size = s.size - (pfxs k).size := by
  unfold ext; simp

/-- The chosen form: the only one that can match. -/
theorem chosen (s : ByteArray) : ∃ k0, k0 < 5 ∧ formV s = (negs k0, ext s k0, bases k0) ∧ (∀ k, k < 5 → k ≠ k0 → mB s k = false) ∧
    (mB s k0 = true ↔ ¬ ((ext s k0).size = 0 ∨ allOk (ext s k0) (bases k0) = false)) := by
  have tail : ∀ k0, (∀ i, i < (pfxs k0).size → bt s i = bt (pfxs k0) i) → (mB s k0 = true ↔ ¬ ((ext s k0).size = 0 ∨ allOk (ext s k0) (bases k0) = false)) := by
    intro k0 hp
    unfold mB
    rw [matchB_iff _ _ _ (bases_ok k0), ext_size]
    unfold ext
    constructor
    · rintro ⟨h1, _, h3⟩ (h | h)
      · omega
      · rw [h3] at h; cases h
    · intro h
      refine ⟨?_, hp, ?_⟩
      · have : ¬ s.size - (pfxs k0).size = 0 := fun e => h (.inl e)
        omega
      · cases hh : allOk (s.extract (pfxs k0).size s.size) (bases k0)
        · exact absurd (.inr hh) h
        · rfl
  unfold formV
  by_cases h1 : hasPB s ⟨#[48, 111]⟩ = true
  · obtain ⟨hz, hq⟩ := (hasPB_iff s (pfxs 0)).1 h1
    have q0 : bt s 0 = 48 := by rw [hq 0 (by decide)]; exact bt_lo0
    have q1 : bt s 1 = 111 := by rw [hq 1 (by decide)]; exact bt_lo1
    rw [sz0] at hz
    refine ⟨0, by omega, by rw [if_pos h1]; rfl, fun k hk hne => ?_, tail 0 hq⟩
    match k, hk, hne with
    | 1, _, _ => exact mB_false_of s 1 1 (by decide) (by rw [q1, bt_lx1]; decide)
    | 2, _, _ => exact mB_false_of s 2 0 (by decide) (by rw [q0, bt_p0]; decide)
    | 3, _, _ => exact mB_false_of s 3 0 (by decide) (by rw [q0, bt_m0]; decide)
    | 4, _, _ => exact mB4_false_of s 1 (by omega) (by rw [q1]; decide)
  rw [if_neg h1]
  by_cases h2 : hasPB s ⟨#[48, 120]⟩ = true
  · obtain ⟨hz, hq⟩ := (hasPB_iff s (pfxs 1)).1 h2
    have q0 : bt s 0 = 48 := by rw [hq 0 (by decide)]; exact bt_lx0
    have q1 : bt s 1 = 120 := by rw [hq 1 (by decide)]; exact bt_lx1
    rw [sz1] at hz
    refine ⟨1, by omega, by rw [if_pos h2]; rfl, fun k hk hne => ?_, tail 1 hq⟩
    match k, hk, hne with
    | 0, _, _ => exact mB_false_of s 0 1 (by decide) (by rw [q1, bt_lo1]; decide)
    | 2, _, _ => exact mB_false_of s 2 0 (by decide) (by rw [q0, bt_p0]; decide)
    | 3, _, _ => exact mB_false_of s 3 0 (by decide) (by rw [q0, bt_m0]; decide)
    | 4, _, _ => exact mB4_false_of s 1 (by omega) (by rw [q1]; decide)
  rw [if_neg h2]
  have m0 : mB s 0 = false := by
    rw [Bool.eq_false_iff]
    intro hm
    obtain ⟨a, b, _⟩ := (matchB_iff _ _ _ (bases_ok 0)).1 hm
    exact h1 ((hasPB_iff s (pfxs 0)).2 ⟨by omega, b⟩)
  have m1 : mB s 1 = false := by
    rw [Bool.eq_false_iff]
    intro hm
    obtain ⟨a, b, _⟩ := (matchB_iff _ _ _ (bases_ok 1)).1 hm
    exact h2 ((hasPB_iff s (pfxs 1)).2 ⟨by omega, b⟩)
  by_cases h3 : 0 < s.size ∧ bt s 0 = 43
  · refine ⟨2, by omega, by rw [if_pos h3]; rfl, fun k hk hne => ?_, tail 2 (fun i hi => ?_)⟩
    · match k, hk, hne with
      | 0, _, _ => exact m0
      | 1, _, _ => exact m1
      | 3, _, _ => exact mB_false_of s 3 0 (by decide) (by rw [h3.2, bt_m0]; decide)
      | 4, _, _ => exact mB4_false_of s 0 h3.1 (by rw [h3.2]; decide)
    · rw [sz2] at hi
      have : i = 0 := by omega
      subst this
      rw [h3.2, bt_p0]
  rw [if_neg h3]
  have m2 : mB s 2 = false := by
    rw [Bool.eq_false_iff]
    intro hm
    obtain ⟨a, b, _⟩ := (matchB_iff _ _ _ (bases_ok 2)).1 hm
    exact h3 ⟨by omega, by rw [b 0 (by decide)]; exact bt_p0⟩
  by_cases h4 : 0 < s.size ∧ bt s 0 = 45
  · refine ⟨3, by omega, by rw [if_pos h4]; rfl, fun k hk hne => ?_, tail 3 (fun i hi => ?_)⟩
    · match k, hk, hne with
      | 0, _, _ => exact m0
      | 1, _, _ => exact m1
      | 2, _, _ => exact m2
      | 4, _, _ => exact mB4_false_of s 0 h4.1 (by rw [h4.2]; decide)
    · rw [sz3] at hi
      have : i = 0 := by omega
      subst this
      rw [h4.2, bt_m0]
  rw [if_neg h4]
  have m3 : mB s 3 = false := by
    rw [Bool.eq_false_iff]
    intro hm
    obtain ⟨a, b, _⟩ := (matchB_iff _ _ _ (bases_ok 3)).1 hm
    exact h4 ⟨by omega, by rw [b 0 (by decide)]; exact bt_m0⟩
  refine ⟨4, by omega, ?_, fun k hk hne => ?_, tail 4 (fun i hi => by rw [sz4] at hi; omega)⟩
  · show (false, s, (10 : Int)) = (false, s.extract 0 s.size, 10)
    rw [extract_all]
  · match k, hk, hne with
    | 0, _, _ => exact m0
    | 1, _, _ => exact m1
    | 2, _, _ => exact m2
    | 3, _, _ => exact m3
    | 4, _, h => exact absurd rfl h

/-- The law's loop, after k rounds. -/
def st (s : ByteArray) : Nat → Int × Bool × ByteArray × Int
  | 0 => (0, false, ⟨#[]⟩, 0)
  | k + 1 => if mB s k = true then ((st s k).1 + 1, negs k, ext s k, bases k) else st s k

theorem st_bd (s : ByteArray) (k : Nat) : 0 ≤ (st s k).1 ∧ (st s k).1 ≤ k := by
  induction k with
  | zero => exact ⟨Int.le_refl _, Int.le_refl _⟩
  | succ k ih =>
    unfold st
    split
    · exact ⟨by show (0 : Int) ≤ (st s k).1 + 1; omega, by show (st s k).1 + 1 ≤ ((k + 1 : Nat) : Int); omega⟩
    · omega
theorem st_yes (s : ByteArray) (k : Nat) (h : mB s k = true) : st s (k + 1) = ((st s k).1 + 1, negs k, ext s k, bases k) := by
  rw [st, if_pos h]
theorem st_no (s : ByteArray) (k : Nat) (h : mB s k = false) : st s (k + 1) = st s k := by
  rw [st, if_neg (by simp [h])]
theorem st_init (s : ByteArray) (n : Nat) (h : ∀ k, k < n → mB s k = false) : st s n = (0, false, ⟨#[]⟩, 0) := by
  induction n with
  | zero => rfl
  | succ n ih => rw [st_no s n (h n (by omega))]; exact ih (fun k hk => h k (by omega))
theorem st_one (s : ByteArray) (k0 : Nat) (hm : mB s k0 = true) (n : Nat) (hn : k0 < n) (h : ∀ k, k < n → k ≠ k0 → mB s k = false) : st s n = (1, negs k0, ext s k0, bases k0) := by
  induction n with
  | zero => omega
  | succ n ih =>
    by_cases e : n = k0
    · subst e
      rw [st_yes s n hm, st_init s n (fun k hk => h k (by omega) (by omega))]
      rfl
    · rw [st_no s n (h n (by omega) e)]
      exact ih (by omega) (fun k hk => h k (by omega))

theorem law (s : ByteArray) : (finV s = .tuple #[.bool false, .string ⟨#[]⟩, .int .i64 0, .bool false] ∧ st s 5 = (0, false, ⟨#[]⟩, 0)) ∨
    ∃ n d b, finV s = .tuple #[.bool n, .string d, .int .i64 b, .bool true] ∧ st s 5 = (1, n, d, b) := by
  obtain ⟨k0, hk, hf, ho, hm⟩ := chosen s
  have e : finV s = fin (negs k0) (ext s k0) (bases k0) := by unfold finV; rw [hf]
  unfold fin at e
  by_cases h : (ext s k0).size = 0 ∨ allOk (ext s k0) (bases k0) = false
  · left
    rw [if_pos h] at e
    have hm' : mB s k0 = false := by
      rw [Bool.eq_false_iff]
      intro hh
      exact hm.1 hh h
    refine ⟨e, st_init s 5 fun k hk5 => ?_⟩
    by_cases ek : k = k0
    · rw [ek]; exact hm'
    · exact ho k hk5 ek
  · right
    rw [if_neg h] at e
    exact ⟨_, _, _, e, st_one s k0 (hm.2 h) 5 hk ho⟩
end Go.Proofs.Qxb6601440a
