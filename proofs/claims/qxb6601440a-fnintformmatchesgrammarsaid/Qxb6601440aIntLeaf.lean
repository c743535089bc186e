/-
  Contracts for the intForm law: HasPrefix, intForm, ZZIntForm, ifFormSpec, ifMatch, zzBytes.
-/
import Derived.Test.Qxb6601440aUriLeaf
import Derived.Deep.QuietTactic
import Derived.BigQuiet
import Derived.PlainAid
import Derived.Lib.Strings
import Derived.Lib.IndexBytes
namespace Go.Proofs.Qxb6601440a
open Go.RowKit
open Go.PlainAid (bt get_bt bt_nonneg bt_le)
set_option linter.unusedVariables false

theorem hide {p : Prop} (h : p) : Hid p := h
theorem unhide {p : Prop} (h : Hid p) : p := h
theorem results_tmp4 {fn : Func} {t u v x : Tmp} (h : fn.results = #[.tmp t, .tmp u, .tmp v, .tmp x]) (tmps : Array Value) (P : Program) (w : World) :
    (results fn tmps).run P w = .ok (.tuple #[tmps.getD t undef, tmps.getD u undef, tmps.getD v undef, tmps.getD x undef]) w := by
  simp [results, h]

theorem zzBytesI_any (s : ByteArray) (w : World) (hl : s.size ≤ maxLen) :
    Calls Try.prog 22 #[.string s] w fun e w' => e = .returned (.bool (decide (s.size ≤ 1048576))) ∧ w' = w := by
  unfold maxLen at hl
  by_cases h : s.size ≤ 1048576
  · go_enter Try.func22, Try.ntmps22
    go_wp2
    go_ret
    exact ⟨ret_bool (by simp [h]), rfl⟩
  · go_enter Try.func22, Try.ntmps22
    go_wp2
    go_ret
    exact ⟨ret_bool (by simp [h]), rfl⟩

def hasPB (s p : ByteArray) : Bool := decide (p.size ≤ s.size) && ((s.extract 0 p.size).toList == p.toList)

theorem hasPrefix_any (s p : ByteArray) (w : World) (hs : s.size ≤ 1048576) (hp : p.size ≤ 1048576) : Calls Try.prog 42 #[.string s, .string p] w fun e w' => e = .returned (.bool (hasPB s p)) ∧ w' = w := by
  by_cases h : p.size ≤ s.size
  · go_enter Try.func42, Try.ntmps42
    go_wp2
    go_ret
    exact ⟨ret_bool (by simp [hasPB, h]), rfl⟩
  · go_enter Try.func42, Try.ntmps42
    go_wp2
    go_ret
    exact ⟨ret_bool (by simp [hasPB, h]), rfl⟩

def lo : ByteArray := ⟨#[48, 111]⟩
def lx : ByteArray := ⟨#[48, 120]⟩

def okDig (base b : Int) : Bool := if base = 16 then hexB b else decide (48 ≤ b ∧ b < 48 + base)
def allOk (d : ByteArray) (base : Int) : Bool := decide (∀ k, k < d.size → okDig base (bt d k) = true)

/-- What intForm answers once digits and base are chosen. -/
def fin (neg : Bool) (d : ByteArray) (base : Int) : Value :=
  if d.size = 0 ∨ allOk d base = false then .tuple #[.bool false, .string ⟨#[]⟩, .int .i64 0, .bool false] else .tuple #[.bool neg, .string d, .int .i64 base, .bool true]

theorem empty_iff (d : ByteArray) : d.toList.isEmpty = decide (d.size = 0) := by
  rw [Lib.toList_data, Lib.size_eq]
  cases d.data.toList <;> simp

theorem fin_bad (neg : Bool) (d : ByteArray) (base : Int) (k : Nat) (hk : k < d.size) (h : okDig base (bt d k) = false) :
    fin neg d base = .tuple #[.bool false, .string ⟨#[]⟩, .int .i64 0, .bool false] := by
  unfold fin
  rw [if_pos]
  right
  refine decide_eq_false fun hh => ?_
  rw [hh k hk] at h
  cases h
theorem fin_none (neg : Bool) (d : ByteArray) (base : Int) (h : d.size = 0) :
    fin neg d base = .tuple #[.bool false, .string ⟨#[]⟩, .int .i64 0, .bool false] := by
  unfold fin
  rw [if_pos (.inl h)]
theorem fin_good (neg : Bool) (d : ByteArray) (base : Int) (h0 : 0 < d.size) (h : ∀ k, k < d.size → okDig base (bt d k) = true) :
    fin neg d base = .tuple #[.bool neg, .string d, .int .i64 base, .bool true] := by
  unfold fin
  rw [if_neg]
  rintro (h1 | h1)
  · omega
  · exact absurd h (of_decide_eq_false h1)

set_option maxHeartbeats 800000 in
theorem way_o (s d : ByteArray) (w : World) (hl : s.size ≤ 1048576) (h1 : hasPB s ⟨#[48, 111]⟩ = true) (h2 : 2 ≤ s.size) (hd : s.extract 2 s.size = d) (hsz : d.size ≤ 1048576) :
   Calls Try.prog 38 #[.string s] w fun e w' => e = .returned (fin false d 8) ∧ w' = w := by
  by_cases hemp : d.size = 0
  · have he : d.toList.isEmpty = true := by rw [empty_iff]; exact decide_eq_true hemp
    rw [fin_none _ _ _ hemp]
    clear hemp
    go_enter Try.func38, Try.ntmps38
    go_wp2_with (go_at_call 42; refine (hasPrefix_any _ _ _ hl (by decide)).mono ?_; rintro e w1 ⟨rfl, hw⟩; subst w1)
    refine bodyPost_ret (results_tmp4 rfl _ _ _) rfl ?_
    exact ⟨rfl, rfl⟩
  · have he : d.toList.isEmpty = false := by rw [empty_iff]; exact decide_eq_false hemp
    go_enter Try.func38, Try.ntmps38
    go_wp2_with (go_at_call 42; refine (hasPrefix_any _ _ _ hl (by decide)).mono ?_; rintro e w1 ⟨rfl, hw⟩; subst w1)
    go_loop [2, 3, 4, 5, 6] (fun t2 t3 t4 t5 i => ∃ k : Nat, k ≤ d.size ∧ i = .int .i64 k ∧ t2 = .bool false ∧ t3 = .string d ∧ t4 = .int .i64 8 ∧ t5 = .bool false ∧ Hid (∀ j : Nat, j < k → okDig 8 (bt d j) = true)) (fun _ _ _ _ i => d.size - (intOf i).toNat)
    case atStart => exact ⟨0, by omega, rfl, rfl, rfl, rfl, rfl, fun j hj => by omega⟩
    case round =>
      obtain ⟨k, hk, rfl, rfl, rfl, rfl, rfl, hno⟩ := hrel
      by_cases hlt : k < d.size
      · have hb := get_bt d k hlt
        by_cases hx : 48 ≤ bt d k ∧ bt d k < 48 + 8
        · have hx' : (48 : Int) ≤ ((d[k].toNat : Nat) : Int) ∧ ((d[k].toNat : Nat) : Int) < 56 := by rw [hb]; omega
          obtain ⟨hx1, hx2⟩ := hx'
          have HX := hide hx
          clear hb hx
          go_wp2
          go_round
          case rel =>
            refine ⟨k + 1, by omega, by go_num, rfl, rfl, rfl, rfl, fun j hj => ?_⟩
            by_cases e : j = k
            · subst e; simpa [okDig] using unhide HX
            · exact hno.out j (by omega)
          case measure => simp [intOf]; omega
        · have HX : Hid (okDig 8 (bt d k) = false) := by show okDig 8 (bt d k) = false; simp only [okDig]; exact decide_eq_false hx
          have hx' : ((d[k].toNat : Nat) : Int) < 48 ∨ 56 ≤ ((d[k].toNat : Nat) : Int) := by rw [hb]; omega
          clear hb hx
          rcases hx' with hx' | hx'
          all_goals
            go_wp2
            refine bodyPost_ret (results_tmp4 rfl _ _ _) rfl ?_
            rw [fin_bad _ _ _ k hlt (unhide HX)]
            exact ⟨rfl, rfl⟩
      · go_wp2
        refine bodyPost_ret (results_tmp4 rfl _ _ _) rfl ?_
        rw [fin_good _ _ _ (by omega) (fun j hj => hno.out j (by omega))]
        exact ⟨rfl, rfl⟩

set_option maxHeartbeats 800000 in
theorem way_x (s d : ByteArray) (w : World) (hl : s.size ≤ 1048576) (h1 : hasPB s ⟨#[48, 111]⟩ = false) (h1' : hasPB s ⟨#[48, 120]⟩ = true) (h2 : 2 ≤ s.size) (hd : s.extract 2 s.size = d) (hsz : d.size ≤ 1048576) :
   Calls Try.prog 38 #[.string s] w fun e w' => e = .returned (fin false d 16) ∧ w' = w := by
  by_cases hemp : d.size = 0
  · have he : d.toList.isEmpty = true := by rw [empty_iff]; exact decide_eq_true hemp
    rw [fin_none _ _ _ hemp]
    clear hemp
    go_enter Try.func38, Try.ntmps38
    go_wp2_with (go_at_call 42; refine (hasPrefix_any _ _ _ hl (by decide)).mono ?_; rintro e w1 ⟨rfl, hw⟩; subst w1)
    refine bodyPost_ret (results_tmp4 rfl _ _ _) rfl ?_
    exact ⟨rfl, rfl⟩
  · have he : d.toList.isEmpty = false := by rw [empty_iff]; exact decide_eq_false hemp
    go_enter Try.func38, Try.ntmps38
    go_wp2_with (go_at_call 42; refine (hasPrefix_any _ _ _ hl (by decide)).mono ?_; rintro e w1 ⟨rfl, hw⟩; subst w1)
    go_loop [2, 3, 4, 5, 6] (fun t2 t3 t4 t5 i => ∃ k : Nat, k ≤ d.size ∧ i = .int .i64 k ∧ t2 = .bool false ∧ t3 = .string d ∧ t4 = .int .i64 16 ∧ t5 = .bool false ∧ Hid (∀ j : Nat, j < k → okDig 16 (bt d j) = true)) (fun _ _ _ _ i => d.size - (intOf i).toNat)
    case atStart => exact ⟨0, by omega, rfl, rfl, rfl, rfl, rfl, fun j hj => by omega⟩
    case round =>
      obtain ⟨k, hk, rfl, rfl, rfl, rfl, rfl, hno⟩ := hrel
      by_cases hlt : k < d.size
      · cases hx : hexB (bt d k)
        · have hx' : hexB ((d[k].toNat : Nat) : Int) = false := by rw [get_bt d k hlt]; exact hx
          go_wp2_with (go_at_call 43; refine (isHex_any _ _).mono ?_; rintro e w1 ⟨rfl, hw⟩; subst w1)
          refine bodyPost_ret (results_tmp4 rfl _ _ _) rfl ?_
          rw [fin_bad _ _ _ k hlt (by simp [okDig, hx])]
          exact ⟨rfl, rfl⟩
        · have hx' : hexB ((d[k].toNat : Nat) : Int) = true := by rw [get_bt d k hlt]; exact hx
          go_wp2_with (go_at_call 43; refine (isHex_any _ _).mono ?_; rintro e w1 ⟨rfl, hw⟩; subst w1)
          go_round
          case rel =>
            refine ⟨k + 1, by omega, by go_num, rfl, rfl, rfl, rfl, fun j hj => ?_⟩
            by_cases e : j = k
            · subst e; simp [okDig, hx]
            · exact hno.out j (by omega)
          case measure => simp [intOf]; omega
      · go_wp2
        refine bodyPost_ret (results_tmp4 rfl _ _ _) rfl ?_
        rw [fin_good _ _ _ (by omega) (fun j hj => hno.out j (by omega))]
        exact ⟨rfl, rfl⟩

end Go.Proofs.Qxb6601440a
