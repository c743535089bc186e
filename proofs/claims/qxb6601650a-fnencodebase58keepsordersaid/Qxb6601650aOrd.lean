/-
  The encoder keeps order: the plain laws, and the contracts of the comparing functions.
-/
import Derived.Test.Qxb6601650aBack
import Derived.PlainAid
import Derived.Deep.QuietTactic
import Derived.BigQuiet
namespace Go.Proofs.Qxb6601650a
open Go.RowKit Go.PlainAid
set_option linter.unusedVariables false

/-- Two rows of numbers, compared place by place. -/
def Cmp (x y : Nat → Nat) (n : Nat) (r : Int) : Prop :=
  (r = 0 ∧ ∀ i, i < n → x i = y i) ∨ ∃ k, k < n ∧ (∀ i, i < k → x i = y i) ∧ (x k < y k ∧ r = -1 ∨ y k < x k ∧ r = 1)
def cmpN (p q : Nat) : Int := if p < q then -1 else if q < p then 1 else 0

theorem be_same (b : Nat) (x y : Nat → Nat) (s k : Nat) (h : ∀ i, i < k → x (s + i) = y (s + i)) : be b x s k = be b y s k := by
  induction k with
  | zero => rfl
  | succ k ih => rw [be_succ, be_succ, ih (fun i hi => h i (by omega)), h k (by omega)]

theorem be_less (b : Nat) (x y : Nat → Nat) (k n : Nat) (hk : k < n) (he : ∀ i, i < k → x i = y i) (hl : x k < y k) (hd : ∀ i, i < n → x i < b) : be b x 0 n < be b y 0 n := by
  obtain ⟨m, rfl⟩ : ∃ m, n = k + 1 + m := ⟨n - (k + 1), by omega⟩
  induction m with
  | zero =>
    rw [Nat.add_zero, be_succ, be_succ, Nat.zero_add, be_same b x y 0 k (fun i hi => by rw [Nat.zero_add]; exact he i hi)]
    omega
  | succ m ih =>
    have h1 := ih (by omega) (fun i hi => hd i (by omega))
    have h2 := hd (k + 1 + m) (by omega)
    rw [← Nat.add_assoc, be_succ, be_succ, Nat.zero_add]
    have h3 : (be b x 0 (k + 1 + m) + 1) * b ≤ be b y 0 (k + 1 + m) * b := Nat.mul_le_mul_right b h1
    rw [Nat.add_mul, Nat.one_mul] at h3
    omega

theorem Cmp.value {x y : Nat → Nat} {n : Nat} {r : Int} (h : Cmp x y n r) (b : Nat) (hx : ∀ i, i < n → x i < b) (hy : ∀ i, i < n → y i < b) : r = cmpN (be b x 0 n) (be b y 0 n) := by
  unfold cmpN
  rcases h with ⟨rfl, h⟩ | ⟨k, hk, he, ⟨hl, rfl⟩ | ⟨hl, rfl⟩⟩
  · have := be_same b x y 0 n (fun i hi => by rw [Nat.zero_add]; exact h i hi)
    rw [this, if_neg (by omega), if_neg (by omega)]
  · rw [if_pos (be_less b x y k n hk he hl hx)]
  · have := be_less b y x k n hk (fun i hi => (he i hi).symm) hl hy
    rw [if_neg (by omega), if_pos this]

theorem be_zeros (b : Nat) (z : Nat → Nat) (c : Nat) (h : ∀ i, i < c → z i = 0) : be b z 0 c = 0 := by
  induction c with
  | zero => rfl
  | succ c ih => rw [be_succ, ih (fun i hi => h i (by omega)), Nat.zero_add, h c (by omega), Nat.zero_mul]
theorem be_skip (b : Nat) (z : Nat → Nat) (c m : Nat) (h : ∀ i, i < c → z i = 0) : be b z 0 (c + m) = be b z c m := by
  induction m with
  | zero => rw [Nat.add_zero, be_zeros b z c h]; rfl
  | succ m ih => rw [← Nat.add_assoc, be_succ, be_succ, ih, Nat.zero_add]
theorem be_shift (b : Nat) (x y : Nat → Nat) (c m : Nat) (h : ∀ i, i < m → x (c + i) = y i) : be b x c m = be b y 0 m := by
  induction m with
  | zero => rfl
  | succ m ih => rw [be_succ, be_succ, ih (fun i hi => h i (by omega)), h m (by omega), Nat.zero_add]

/-- The padded text's digits. -/
def pdg (ds : List Nat) (N i : Nat) : Nat := if i < N - ds.length then 0 else dg ds (i - (N - ds.length))
theorem pdg_lt (ds : List Nat) (hd : ∀ d ∈ ds, d < 58) (N i : Nat) (hi : i < N) : pdg ds N i < 58 := by
  unfold pdg
  by_cases h : i < N - ds.length
  · rw [if_pos h]; decide
  · rw [if_neg h]; exact dg_lt ds hd _ (by omega)
theorem be_pdg (ds : List Nat) (N : Nat) (h : ds.length ≤ N) : be 58 (pdg ds N) 0 N = val 58 ds := by
  have e : N = (N - ds.length) + ds.length := by omega
  have h1 : be 58 (pdg ds N) 0 ((N - ds.length) + ds.length) = be 58 (pdg ds N) (N - ds.length) ds.length := be_skip 58 _ _ _ (fun i hi => by unfold pdg; rw [if_pos hi])
  have h2 : be 58 (pdg ds N) (N - ds.length) ds.length = be 58 (dg ds) 0 ds.length := be_shift 58 _ _ _ _ (fun i hi => by
    unfold pdg
    rw [if_neg (by omega), Nat.add_sub_cancel_left])
  rw [← e] at h1
  rw [h1, h2, be_dg]

theorem Enc.whole {n : Nat} {z : Nat → Nat} {zc : Nat} {ds : List Nat} (h : Enc n z zc ds) : val 58 ds = be 256 z 0 n := by
  have hle := h.lead.le
  have := be_skip 256 z zc (n - zc) h.lead.zero
  rw [show zc + (n - zc) = n by omega] at this
  rw [h.value, this]

theorem alpha_cmp {x y : Nat → Nat} {n : Nat} {r : Int} (hx : ∀ i, i < n → x i < 58) (hy : ∀ i, i < n → y i < 58) (h : Cmp (fun i => alpha (x i)) (fun i => alpha (y i)) n r) : Cmp x y n r := by
  have back : ∀ p q, p < 58 → q < 58 → alpha p < alpha q → p < q := fun p q hp hq hl => by
    by_cases h1 : p < q
    · exact h1
    · by_cases h2 : q < p
      · have := alpha_mono q p hp h2; omega
      · have : p = q := by omega
        rw [this] at hl; omega
  rcases h with ⟨rfl, h⟩ | ⟨k, hk, he, hc⟩
  · exact .inl ⟨rfl, fun i hi => alpha_inj _ _ (hx i hi) (hy i hi) (h i hi)⟩
  · refine .inr ⟨k, hk, fun i hi => alpha_inj _ _ (hx i (by omega)) (hy i (by omega)) (he i hi), ?_⟩
    rcases hc with ⟨hl, rfl⟩ | ⟨hl, rfl⟩
    · exact .inl ⟨back _ _ (hx k hk) (hy k hk) hl, rfl⟩
    · exact .inr ⟨back _ _ (hy k hk) (hx k hk) hl, rfl⟩

/-- The law, in plain words. -/
theorem order_same {n : Nat} {z1 z2 : Nat → Nat} {c1 c2 : Nat} {d1 d2 : List Nat} (e1 : Enc n z1 c1 d1) (e2 : Enc n z2 c2 d2) (h1 : ∀ i, i < n → z1 i < 256) (h2 : ∀ i, i < n → z2 i < 256)
    {N : Nat} (l1 : c1 + d1.length ≤ N) (l2 : c2 + d2.length ≤ N) {r q : Int} (hr : Cmp z1 z2 n r) (hq : Cmp (fun i => alpha (pdg d1 N i)) (fun i => alpha (pdg d2 N i)) N q) : r = q := by
  have a1 := pdg_lt d1 e1.dig N
  have a2 := pdg_lt d2 e2.dig N
  rw [hr.value 256 h1 h2, (alpha_cmp (fun i hi => a1 i hi) (fun i hi => a2 i hi) hq).value 58 (fun i hi => a1 i hi) (fun i hi => a2 i hi), be_pdg d1 N (by omega), be_pdg d2 N (by omega), e1.whole, e2.whole]

/-- What the padded text reads. -/
structure Pads (s : ByteArray) (N : Nat) (f : Nat → Nat) : Prop where
  le : s.size ≤ N
  one : ∀ i, i < N - s.size → f i = 49
  chr : ∀ j (h : j < s.size), ((s[j]'h).toNat : Int) = ((f (N - s.size + j) : Nat) : Int)
theorem pads (c : Nat) (ds : List Nat) (hd : ∀ d ∈ ds, d < 58) (N : Nat) (h : c + ds.length ≤ N) : Pads (strOf (encL c ds)) N (fun i => alpha (pdg ds N i)) := by
  have hs := isEnc c ds hd
  refine ⟨by rw [hs.size]; exact h, fun i hi => ?_, fun j hj => ?_⟩
  · rw [hs.size] at hi
    unfold pdg
    rw [if_pos (by omega)]; rfl
  · have hsz := hs.size
    by_cases hc : j < c
    · rw [hs.one j hj hc]
      unfold pdg
      rw [if_pos (by omega)]; rfl
    · rw [hs.dig j hj (by omega)]
      unfold pdg
      rw [if_neg (by omega), show N - (strOf (encL c ds)).size + j - (N - ds.length) = j - c by omega]

def ByteP (w : World) (d : Nat) (e : Ending) (w' : World) : Prop := e = .returned (.int .u8 (d : Int)) ∧ w' = w
theorem pad_any (s : ByteArray) (N i : Nat) (f : Nat → Nat) (w : World) (hp : Pads s N f) (hN : N ≤ 20000) (hi : i < N) :
    Calls Try.prog 16 #[.string s, .int .i64 (N : Nat), .int .i64 (i : Nat)] w fun e w' => ByteP w (f i) e w' := by
  have hle := hp.le
  obtain ⟨p, hpe⟩ : ∃ p, N - s.size = p := ⟨_, rfl⟩
  have e1 : (N : Int) - (s.size : Int) = (p : Int) := by omega
  by_cases h : i < p
  · have hone := hp.one i (by omega)
    clear hp
    rw [hone]
    go_enter Try.func16, Try.ntmps16
    go_wp2
    go_ret
    exact ⟨rfl, rfl⟩
  · obtain ⟨j, hj⟩ : ∃ j, i - p = j := ⟨_, rfl⟩
    have hjs : j < s.size := by omega
    have hat := hp.chr j hjs
    rw [hpe, show p + j = i by omega] at hat
    have e2 : (i : Int) - (p : Int) = (j : Int) := by omega
    obtain ⟨d, hd⟩ : ∃ d, f i = d := ⟨_, rfl⟩
    rw [hd] at hat ⊢
    clear hp hpe hd hj
    go_enter Try.func16, Try.ntmps16
    go_wp2
    go_ret
    exact ⟨rfl, rfl⟩

theorem drew2 (w : World) (a b : Nat) : (w.drewN a).drewN b = w.drewN (a + b) := by simp [World.drewN, Nat.add_assoc]
theorem drew3 (w : World) (a b c : Nat) : ((w.drewN a).drewN b).drewN c = w.drewN (a + b + c) := by rw [drew2, drew2, Nat.add_assoc]
def CmpP (w : World) (x y : Nat → Nat) (n : Nat) (e : Ending) (w' : World) : Prop := ∃ r, e = .returned (.int .i64 r) ∧ Cmp x y n r ∧ ∃ m, w' = w.drewN m

set_option maxHeartbeats 1000000 in
theorem cmpPad_any (s1 s2 : ByteArray) (N : Nat) (f1 f2 : Nat → Nat) (w : World) (h1 : Pads s1 N f1) (h2 : Pads s2 N f2) (hN : N ≤ 20000) :
    Calls Try.prog 14 #[.string s1, .string s2, .int .i64 (N : Nat)] w fun e w' => CmpP w f1 f2 N e w' := by
  have H1 := hide h1
  have H2 := hide h2
  clear h1 h2
  go_enter Try.func14, Try.ntmps14
  go_wp2
  go_loop [6, 7] (fun t6 i => ∃ k : Nat, k ≤ N ∧ t6 = .int .i64 0 ∧ i = .int .i64 k ∧ ∀ j, j < k → f1 j = f2 j) (fun _ i => N - (intOf i).toNat)
  case atStart => exact ⟨0, by omega, rfl, rfl, fun j hj => by omega⟩
  case round =>
    obtain ⟨k, hk, rfl, rfl, heq⟩ := hrel
    have HEQ := hide heq
    clear heq
    by_cases hlt : k < N
    · go_wp2_with fail
      refine (pad_any s1 N k f1 _ (unhide H1) hN hlt).mono ?_
      rintro e w1 ⟨rfl, hw⟩
      subst w1
      go_wp2_with fail
      refine (pad_any s2 N k f2 _ (unhide H2) hN hlt).mono ?_
      rintro e w1 ⟨rfl, hw⟩
      subst w1
      by_cases c1 : f1 k < f2 k
      · have HC := hide c1
        obtain ⟨p, hp⟩ : ∃ p, f1 k = p := ⟨_, rfl⟩
        obtain ⟨q, hq⟩ : ∃ q, f2 k = q := ⟨_, rfl⟩
        rw [hp, hq] at c1
        rw [hp, hq]
        clear hp hq
        go_wp2
        go_ret
        exact ⟨_, rfl, .inr ⟨k, hlt, unhide HEQ, .inl ⟨unhide HC, rfl⟩⟩, 0, rfl⟩
      · by_cases c2 : f2 k < f1 k
        · have HC := hide c2
          obtain ⟨p, hp⟩ : ∃ p, f1 k = p := ⟨_, rfl⟩
          obtain ⟨q, hq⟩ : ∃ q, f2 k = q := ⟨_, rfl⟩
          rw [hp, hq] at c1 c2
          rw [hp, hq]
          clear hp hq
          go_wp2
          go_ret
          exact ⟨_, rfl, .inr ⟨k, hlt, unhide HEQ, .inr ⟨unhide HC, rfl⟩⟩, 0, rfl⟩
        · have hsame : f1 k = f2 k := by omega
          have HC := hide hsame
          rw [hsame]
          clear c1 c2 hsame
          go_wp2
          go_round
          case rel =>
            refine ⟨k + 1, by omega, rfl, by go_num, fun j hj => ?_⟩
            by_cases e : j = k
            · rw [e]; exact unhide HC
            · exact unhide HEQ j (by omega)
          case measure => simp [intOf]; omega
    · go_wp2
      go_ret
      exact ⟨_, rfl, .inl ⟨rfl, fun i hi => unhide HEQ i (by omega)⟩, 0, rfl⟩

set_option maxHeartbeats 2000000 in
theorem cmp_any (a b : Option Addr) (n ca cb : Nat) (z1 z2 : Nat → Nat) (w : World) (hn : n ≤ 4096) (h1 : LX w a n z1) (h2 : LX w b n z2) :
    Calls Try.prog 13 #[.slice a n ca, .slice b n cb] w fun e w' => CmpP w z1 z2 n e w' := by
  have H1 := hide h1
  have H2 := hide h2
  clear h1 h2
  go_enter Try.func13, Try.ntmps13
  go_wp2
  go_loopw [4, 6] (fun t4 i wr => ∃ k : Nat, k ≤ n ∧ t4 = .int .i64 0 ∧ i = .int .i64 k ∧ (∀ j, j < k → z1 j = z2 j) ∧ ∃ m, wr = w.drewN m) (fun _ i _ => n - (intOf i).toNat)
  case atStart => exact ⟨0, by omega, rfl, rfl, fun j hj => by omega, 0, rfl⟩
  case round =>
    rename World => w4
    obtain ⟨k, hk, rfl, rfl, heq, m, rfl⟩ := hrel
    have HEQ := hide heq
    clear heq
    by_cases hlt : k < n
    · obtain ⟨x, rfl⟩ := (unhide H1).some_addr (by omega)
      obtain ⟨y, rfl⟩ := (unhide H2).some_addr (by omega)
      have hc1 := (unhide H1).2 x rfl k hlt
      have hc2 := (unhide H2).2 y rfl k hlt
      have hkn' : (k : Int) < (n : Int) := by omega
      obtain ⟨p, hp⟩ : ∃ p, z1 k = p := ⟨_, rfl⟩
      obtain ⟨q, hq⟩ : ∃ q, z2 k = q := ⟨_, rfl⟩
      rw [hp] at hc1
      rw [hq] at hc2
      by_cases c1 : p < q
      · have HC : Hid (z1 k < z2 k) := by show z1 k < z2 k; omega
        clear hp hq
        go_wp2_with fail
        go_quiet (fail)
        go_wp2
        go_ret
        exact ⟨_, rfl, .inr ⟨k, hlt, unhide HEQ, .inl ⟨unhide HC, rfl⟩⟩, _, drew2 _ _ _⟩
      · by_cases c2 : q < p
        · have HC : Hid (z2 k < z1 k) := by show z2 k < z1 k; omega
          clear hp hq
          go_wp2_with fail
          go_quiet (fail)
          go_wp2_with fail
          go_quiet (fail)
          go_wp2
          go_ret
          exact ⟨_, rfl, .inr ⟨k, hlt, unhide HEQ, .inr ⟨unhide HC, rfl⟩⟩, _, drew3 _ _ _ _⟩
        · have HC : Hid (z1 k = z2 k) := by show z1 k = z2 k; omega
          have hpq : q = p := by omega
          subst hpq
          clear hp hq c1 c2
          go_wp2_with fail
          go_quiet (fail)
          go_wp2_with fail
          go_quiet (fail)
          go_wp2
          go_roundw
          case rel =>
            refine ⟨k + 1, by omega, rfl, by go_num, fun j hj => ?_, _, rfl⟩
            by_cases e : j = k
            · rw [e]; exact unhide HC
            · exact unhide HEQ j (by omega)
          case measure => simp [intOf]; omega
    · go_wp2
      go_ret
      exact ⟨_, rfl, .inl ⟨rfl, fun i hi => unhide HEQ i (by omega)⟩, _, rfl⟩

def AnyBool (w : World) (e : Ending) (w' : World) : Prop := ∃ b : Bool, e = .returned (.bool b) ∧ w' = w
set_option maxHeartbeats 1000000 in
theorem zz12_any (a b : Option Addr) (n ca m cb : Nat) (w : World) (h0 : n ≤ maxLen) (h1 : m ≤ maxLen) :
    Calls Try.prog 12 #[.slice a n ca, .slice b m cb] w fun e w' => AnyBool w e w' := by
  unfold maxLen at h0 h1
  go_enter Try.func12, Try.ntmps12
  go_wp2
  all_goals
    go_ret
    exact ⟨_, rfl, rfl⟩
end Go.Proofs.Qxb6601650a
