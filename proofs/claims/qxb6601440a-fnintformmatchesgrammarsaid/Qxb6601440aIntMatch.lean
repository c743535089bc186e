/-
  Contracts for the intForm law, continued: ifMatch.
-/
import Derived.Test.Qxb6601440aIntLeaf2
namespace Go.Proofs.Qxb6601440a
open Go.RowKit
open Go.PlainAid (bt get_bt bt_nonneg bt_le)
set_option linter.unusedVariables false

def matchB (s p : ByteArray) (base : Int) : Bool :=
  decide (p.size < s.size ∧ (∀ i, i < p.size → bt s i = bt p i) ∧ ∀ k, k < (s.extract p.size s.size).size → 0 ≤ digV (bt (s.extract p.size s.size) k) ∧ digV (bt (s.extract p.size s.size) k) < base)
def matchV (s p : ByteArray) (base : Int) : Value :=
  if matchB s p base = true then .tuple #[.string (s.extract p.size s.size), .bool true] else .tuple #[.string ⟨#[]⟩, .bool false]

theorem matchV_no (s p : ByteArray) (base : Int) (h : ¬ (p.size < s.size ∧ (∀ i, i < p.size → bt s i = bt p i) ∧ ∀ k, k < (s.extract p.size s.size).size → 0 ≤ digV (bt (s.extract p.size s.size) k) ∧ digV (bt (s.extract p.size s.size) k) < base)) :
    matchV s p base = .tuple #[.string ⟨#[]⟩, .bool false] := by
  unfold matchV matchB
  rw [if_neg (by simpa using h)]
theorem matchV_yes (s p : ByteArray) (base : Int) (h : (p.size < s.size ∧ (∀ i, i < p.size → bt s i = bt p i) ∧ ∀ k, k < (s.extract p.size s.size).size → 0 ≤ digV (bt (s.extract p.size s.size) k) ∧ digV (bt (s.extract p.size s.size) k) < base)) :
    matchV s p base = .tuple #[.string (s.extract p.size s.size), .bool true] := by
  unfold matchV matchB
  rw [if_pos (decide_eq_true h)]

set_option maxHeartbeats 800000 in
theorem match_any (s p : ByteArray) (base : Int) (w : World) (hs : s.size ≤ 1048576) (hp : p.size ≤ 1048576) :
    Calls Try.prog 25 #[.string s, .string p, .int .i64 base] w fun e w' => e = .returned (matchV s p base) ∧ ∃ n, w' = w.drewN n := by
  by_cases hle : s.size ≤ p.size
  · rw [matchV_no s p base (fun h => by omega)]
    go_enter Try.func25, Try.ntmps25
    go_wp2
    go_ret2
    exact ⟨rfl, 0, rfl⟩
  · go_enter Try.func25, Try.ntmps25
    go_wp2
    go_loopw [6, 7, 8] (fun t6 t7 i wr => ∃ k n : Nat, k ≤ p.size ∧ i = .int .i64 k ∧ t6 = .string ⟨#[]⟩ ∧ t7 = .bool false ∧ wr = w.drewN n ∧ Hid (∀ j : Nat, j < k → bt s j = bt p j)) (fun _ _ i _ => p.size - (intOf i).toNat)
    case atStart => exact ⟨0, 0, by omega, rfl, rfl, rfl, rfl, fun j hj => by omega⟩
    case round =>
      obtain ⟨k, n, hk, rfl, rfl, rfl, rfl, hno⟩ := hrel
      by_cases hlt : k < p.size
      · have hlt2 : k < s.size := by omega
        have hb1 := get_bt s k hlt2
        have hb2 := get_bt p k hlt
        by_cases heq : bt s k = bt p k
        · have hne : (((s[k].toNat : Nat) : Int) != ((p[k].toNat : Nat) : Int)) = false := by rw [hb1, hb2, heq]; simp
          have HQ := hide heq
          clear hb1 hb2 heq
          go_wp2
          go_quiet (fail)
          go_wp2
          go_roundw
          case rel =>
            refine ⟨k + 1, _, by omega, by go_num, rfl, rfl, rfl, fun j hj => ?_⟩
            by_cases e : j = k
            · subst e; exact unhide HQ
            · exact hno.out j (by omega)
          case measure => simp [intOf]; omega
        · have hne : (((s[k].toNat : Nat) : Int) != ((p[k].toNat : Nat) : Int)) = true := by rw [hb1, hb2]; simpa using heq
          have HQ := hide heq
          clear hb1 hb2 heq
          go_wp2
          go_quiet (fail)
          go_wp2
          go_ret2
          rw [matchV_no s p base (fun h => unhide HQ (h.2.1 k hlt))]
          exact ⟨rfl, _, World.drewN_drewN ..⟩
      · have hpre : Hid (∀ j : Nat, j < p.size → bt s j = bt p j) := fun j hj => hno.out j (by omega)
        clear hno
        obtain ⟨d, hd⟩ : ∃ d, s.extract p.size s.size = d := ⟨_, rfl⟩
        have hds : d.size ≤ 1048576 := by rw [← hd]; simp; omega
        go_wp2
        go_loopw [6, 7, 10] (fun t6 t7 i wr => ∃ k n : Nat, k ≤ d.size ∧ i = .int .i64 k ∧ t6 = .string ⟨#[]⟩ ∧ t7 = .bool false ∧ wr = w.drewN n ∧ Hid (∀ j : Nat, j < k → 0 ≤ digV (bt d j) ∧ digV (bt d j) < base)) (fun _ _ i _ => d.size - (intOf i).toNat)
        case atStart => exact ⟨0, _, by omega, rfl, rfl, rfl, rfl, fun j hj => by omega⟩
        case round =>
          obtain ⟨k2, n2, hk2, rfl, rfl, rfl, rfl, hno⟩ := hrel
          by_cases hlt2 : k2 < d.size
          · have hb := get_bt d k2 hlt2
            by_cases h1 : digV (bt d k2) < 0
            · have HX : Hid _ := h1
              have h1' : digV ((d[k2].toNat : Nat) : Int) < 0 := by rw [hb]; exact h1
              clear hb h1
              go_wp2_with (go_at_call 30; refine (ifDigit_any _ _).mono ?_; rintro e w1 ⟨rfl, hw⟩; subst w1)
              go_ret2
              rw [matchV_no s p base (fun h => by have := h.2.2 k2 (by rw [hd]; exact hlt2); rw [hd] at this; have := HX.out; omega)]
              exact ⟨rfl, _, rfl⟩
            · by_cases h2 : digV (bt d k2) < base
              · have HX : Hid (0 ≤ digV (bt d k2) ∧ digV (bt d k2) < base) := ⟨by omega, h2⟩
                have h1' : 0 ≤ digV ((d[k2].toNat : Nat) : Int) := by rw [hb]; omega
                have h2' : digV ((d[k2].toNat : Nat) : Int) < base := by rw [hb]; exact h2
                clear hb h1 h2
                go_wp2_with (go_at_call 30; refine (ifDigit_any _ _).mono ?_; rintro e w1 ⟨rfl, hw⟩; subst w1)
                go_roundw
                case rel =>
                  refine ⟨k2 + 1, _, by omega, by go_num, rfl, rfl, rfl, fun j hj => ?_⟩
                  by_cases e : j = k2
                  · subst e; exact HX.out
                  · exact hno.out j (by omega)
                case measure => simp [intOf]; omega
              · have HX : Hid (base ≤ digV (bt d k2)) := by show base ≤ digV (bt d k2); omega
                have h1' : 0 ≤ digV ((d[k2].toNat : Nat) : Int) := by rw [hb]; omega
                have h2' : base ≤ digV ((d[k2].toNat : Nat) : Int) := by rw [hb]; omega
                clear hb h1 h2
                go_wp2_with (go_at_call 30; refine (ifDigit_any _ _).mono ?_; rintro e w1 ⟨rfl, hw⟩; subst w1)
                go_ret2
                rw [matchV_no s p base (fun h => by have := h.2.2 k2 (by rw [hd]; exact hlt2); rw [hd] at this; have := HX.out; omega)]
                exact ⟨rfl, _, rfl⟩
          · go_wp2
            go_ret2
            rw [matchV_yes s p base ⟨by omega, hpre.out, fun j hj => by rw [hd] at hj ⊢; exact hno.out j (by omega)⟩, hd]
            exact ⟨rfl, _, rfl⟩

theorem results_tmp3' {fn : Func} {t u v : Tmp} (h : fn.results = #[.tmp t, .tmp u, .tmp v]) (tmps : Array Value) (P : Program) (w : World) :
    (results fn tmps).run P w = .ok (.tuple #[tmps.getD t undef, tmps.getD u undef, tmps.getD v undef]) w := by
  simp [results, h]

def pfxs : Nat → ByteArray
  | 0 => ⟨#[48, 111]⟩
  | 1 => ⟨#[48, 120]⟩
  | 2 => ⟨#[43]⟩
  | 3 => ⟨#[45]⟩
  | _ => ⟨#[]⟩
def bases : Nat → Int
  | 0 => 8
  | 1 => 16
  | _ => 10
def negs : Nat → Bool
  | 3 => true
  | _ => false

theorem spec_any (k : Nat) (hk : k < 5) (w : World) :
    Calls Try.prog 24 #[.int .i64 k] w fun e w' => e = .returned (.tuple #[.string (pfxs k), .int .i64 (bases k), .bool (negs k)]) ∧ w' = w := by
  match k, hk with
  | 0, _ =>
    go_enter Try.func24, Try.ntmps24
    go_wp2
    go_ret3
    exact ⟨rfl, rfl⟩
  | 1, _ =>
    go_enter Try.func24, Try.ntmps24
    go_wp2
    go_ret3
    exact ⟨rfl, rfl⟩
  | 2, _ =>
    go_enter Try.func24, Try.ntmps24
    go_wp2
    go_ret3
    exact ⟨rfl, rfl⟩
  | 3, _ =>
    go_enter Try.func24, Try.ntmps24
    go_wp2
    go_ret3
    exact ⟨rfl, rfl⟩
  | 4, _ =>
    go_enter Try.func24, Try.ntmps24
    go_wp2
    go_ret3
    exact ⟨rfl, rfl⟩

/-- What intForm answers. -/
def formV (s : ByteArray) : Bool × ByteArray × Int :=
  if hasPB s ⟨#[48, 111]⟩ = true then (false, s.extract 2 s.size, 8)
  else if hasPB s ⟨#[48, 120]⟩ = true then (false, s.extract 2 s.size, 16)
  else if 0 < s.size ∧ bt s 0 = 43 then (false, s.extract 1 s.size, 10)
  else if 0 < s.size ∧ bt s 0 = 45 then (true, s.extract 1 s.size, 10)
  else (false, s, 10)
def finV (s : ByteArray) : Value := fin (formV s).1 (formV s).2.1 (formV s).2.2

theorem hasPB_size {s p : ByteArray} (h : hasPB s p = true) : p.size ≤ s.size := by
  unfold hasPB at h
  simp at h
  exact h.1

theorem form_any (s : ByteArray) (w : World) (hs : s.size ≤ 1048576) :
    Calls Try.prog 38 #[.string s] w fun e w' => e = .returned (finV s) ∧ ∃ n, w' = w.drewN n := by
  unfold finV formV
  by_cases h1 : hasPB s ⟨#[48, 111]⟩ = true
  · rw [if_pos h1]
    refine (way_o s _ w hs h1 (hasPB_size h1) rfl (by simp; omega)).mono ?_
    rintro e w' ⟨rfl, rfl⟩
    exact ⟨rfl, 0, rfl⟩
  · rw [if_neg h1]
    have h1' : hasPB s ⟨#[48, 111]⟩ = false := by simpa using h1
    by_cases h2 : hasPB s ⟨#[48, 120]⟩ = true
    · rw [if_pos h2]
      refine (way_x s _ w hs h1' h2 (hasPB_size h2) rfl (by simp; omega)).mono ?_
      rintro e w' ⟨rfl, rfl⟩
      exact ⟨rfl, 0, rfl⟩
    · rw [if_neg h2]
      have h2' : hasPB s ⟨#[48, 120]⟩ = false := by simpa using h2
      by_cases h0 : 0 < s.size
      · have hb := get_bt s 0 h0
        by_cases h3 : bt s 0 = 43
        · rw [if_pos ⟨h0, h3⟩]
          exact way_plus s _ w hs h1' h2' h0 (hb.trans h3) rfl (by simp; omega)
        · rw [if_neg (fun h => h3 h.2)]
          by_cases h4 : bt s 0 = 45
          · rw [if_pos ⟨h0, h4⟩]
            exact way_minus s _ w hs h1' h2' h0 (hb.trans h4) rfl (by simp; omega)
          · rw [if_neg (fun h => h4 h.2)]
            refine (way_plain s _ w hs h1' h2' h0 hb (by simpa using h3) (by simpa using h4)).mono ?_
            rintro e w' ⟨rfl, rfl⟩
            exact ⟨rfl, 0, rfl⟩
      · rw [if_neg (fun h => h0 h.1), if_neg (fun h => h0 h.1)]
        refine (way_empty s w hs h1' h2' (by omega)).mono ?_
        rintro e w' ⟨rfl, rfl⟩
        exact ⟨rfl, 0, rfl⟩

/-- ZZIntForm hands it on, in its four parts. -/
theorem zzform_any (s : ByteArray) (b1 b2 : Bool) (d : ByteArray) (base : Int) (w : World) (hs : s.size ≤ 1048576) (hv : Hid (finV s = .tuple #[.bool b1, .string d, .int .i64 base, .bool b2])) :
    Calls Try.prog 23 #[.string s] w fun e w' => e = .returned (.tuple #[.bool b1, .string d, .int .i64 base, .bool b2]) ∧ ∃ n, w' = w.drewN n := by
  go_enter Try.func23, Try.ntmps23
  go_wp2_with (go_at_call 38; refine (form_any s _ hs).mono ?_; rintro e w1 ⟨rfl, n, hw⟩; subst w1; rw [hv.out])
  refine bodyPost_ret (results_tmp4 rfl _ _ _) rfl ?_
  exact ⟨rfl, _, rfl⟩
end Go.Proofs.Qxb6601440a
