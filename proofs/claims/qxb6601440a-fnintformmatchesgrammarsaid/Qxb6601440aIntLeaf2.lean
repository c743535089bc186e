/-
  Contracts for the intForm law, continued: intForm's two decimal ways.
-/
import Derived.Test.Qxb6601440aIntLeaf
namespace Go.Proofs.Qxb6601440a
open Go.RowKit
open Go.PlainAid (bt get_bt bt_nonneg bt_le)
set_option linter.unusedVariables false

theorem way_empty (d : ByteArray) (w : World) (hl : d.size ≤ 1048576) (h1 : hasPB d ⟨#[48, 111]⟩ = false) (h1' : hasPB d ⟨#[48, 120]⟩ = false) (hemp : d.size = 0) :
   Calls Try.prog 38 #[.string d] w fun e w' => e = .returned (fin false d 10) ∧ w' = w := by
  have he : d.toList.isEmpty = true := by rw [empty_iff]; exact decide_eq_true hemp
  rw [fin_none _ _ _ hemp]
  clear hemp
  go_enter Try.func38, Try.ntmps38
  go_wp2_with (go_at_call 42; refine (hasPrefix_any _ _ _ hl (by decide)).mono ?_; rintro e w1 ⟨rfl, hw⟩; subst w1)
  refine bodyPost_ret (results_tmp4 rfl _ _ _) rfl ?_
  exact ⟨rfl, rfl⟩

set_option maxHeartbeats 800000 in
theorem way_plain (d : ByteArray) (c : Int) (w : World) (hl : d.size ≤ 1048576) (h1 : hasPB d ⟨#[48, 111]⟩ = false) (h1' : hasPB d ⟨#[48, 120]⟩ = false) (h0 : 0 < d.size)
    (hc : (((d[0]'h0).toNat : Nat) : Int) = c) (hc1 : (c == 43) = false) (hc2 : (c == 45) = false) :
   Calls Try.prog 38 #[.string d] w fun e w' => e = .returned (fin false d 10) ∧ w' = w := by
  have he : d.toList.isEmpty = false := by rw [empty_iff]; exact decide_eq_false (by omega)
  · go_enter Try.func38, Try.ntmps38
    go_wp2_with (go_at_call 42; refine (hasPrefix_any _ _ _ hl (by decide)).mono ?_; rintro e w1 ⟨rfl, hw⟩; subst w1)
    clear hc hc1 hc2
    go_loop [2, 3, 4, 5, 6] (fun t2 t3 t4 t5 i => ∃ k : Nat, k ≤ d.size ∧ i = .int .i64 k ∧ t2 = .bool false ∧ t3 = .string d ∧ t4 = .int .i64 10 ∧ t5 = .bool false ∧ Hid (∀ j : Nat, j < k → okDig 10 (bt d j) = true)) (fun _ _ _ _ i => d.size - (intOf i).toNat)
    case atStart => exact ⟨0, by omega, rfl, rfl, rfl, rfl, rfl, fun j hj => by omega⟩
    case round =>
      obtain ⟨k, hk, rfl, rfl, rfl, rfl, rfl, hno⟩ := hrel
      by_cases hlt : k < d.size
      · have hb := get_bt d k hlt
        by_cases hx : 48 ≤ bt d k ∧ bt d k < 48 + 10
        · have hx' : (48 : Int) ≤ ((d[k].toNat : Nat) : Int) ∧ ((d[k].toNat : Nat) : Int) < 58 := by rw [hb]; omega
          obtain ⟨hx1, hx2⟩ := hx'
          have HX := hide hx
          clear hb hx
          go_wp2
          go_round
          case rel =>
            refine ⟨k + 1, by omega, by go_num, rfl, rfl, rfl, rfl, fun j hj => ?_⟩
            by_cases e : j = k
            · subst e; simpa [okDig] using unhide HX
            · exact hno.out j (by omega)
          case measure => simp [intOf]; omega
        · have HX : Hid (okDig 10 (bt d k) = false) := by show okDig 10 (bt d k) = false; simp only [okDig]; exact decide_eq_false hx
          have hx' : ((d[k].toNat : Nat) : Int) < 48 ∨ 58 ≤ ((d[k].toNat : Nat) : Int) := by rw [hb]; omega
          clear hb hx
          rcases hx' with hx' | hx'
          all_goals
            go_wp2
            refine bodyPost_ret (results_tmp4 rfl _ _ _) rfl ?_
            rw [fin_bad _ _ _ k hlt (unhide HX)]
            exact ⟨rfl, rfl⟩
      · go_wp2
        refine bodyPost_ret (results_tmp4 rfl _ _ _) rfl ?_
        rw [fin_good _ _ _ (by omega) (fun j hj => hno.out j (by omega))]
        exact ⟨rfl, rfl⟩

set_option maxHeartbeats 800000 in
theorem way_plus (s d : ByteArray) (w : World) (hl : s.size ≤ 1048576) (h1 : hasPB s ⟨#[48, 111]⟩ = false) (h1' : hasPB s ⟨#[48, 120]⟩ = false) (h0 : 0 < s.size)
    (hc : (((s[0]'h0).toNat : Nat) : Int) = 43) (hd : s.extract 1 s.size = d) (hsz : d.size ≤ 1048576) :
   Calls Try.prog 38 #[.string s] w fun e w' => e = .returned (fin false d 10) ∧ ∃ n, w' = w.drewN n := by
  have hes : s.toList.isEmpty = false := by rw [empty_iff]; exact decide_eq_false (by omega)
  have h0' : (0 : Int) < (s.size : Int) := by omega
  have h01 : (1 : Int) ≤ (s.size : Int) := by omega
  by_cases hemp : d.size = 0
  · have he : d.toList.isEmpty = true := by rw [empty_iff]; exact decide_eq_true hemp
    rw [fin_none _ _ _ hemp]
    clear hemp
    go_enter Try.func38, Try.ntmps38
    go_wp2_with (go_at_call 42; refine (hasPrefix_any _ _ _ hl (by decide)).mono ?_; rintro e w1 ⟨rfl, hw⟩; subst w1)
    go_quiet (fail)
    go_wp2
    refine bodyPost_ret (results_tmp4 rfl _ _ _) rfl ?_
    exact ⟨rfl, _, rfl⟩
  · have he : d.toList.isEmpty = false := by rw [empty_iff]; exact decide_eq_false hemp
    go_enter Try.func38, Try.ntmps38
    go_wp2_with (go_at_call 42; refine (hasPrefix_any _ _ _ hl (by decide)).mono ?_; rintro e w1 ⟨rfl, hw⟩; subst w1)
    go_quiet (fail)
    go_wp2
    clear hc hd
    go_loop [2, 3, 4, 5, 6] (fun t2 t3 t4 t5 i => ∃ k : Nat, k ≤ d.size ∧ i = .int .i64 k ∧ t2 = .bool false ∧ t3 = .string d ∧ t4 = .int .i64 10 ∧ t5 = .bool false ∧ Hid (∀ j : Nat, j < k → okDig 10 (bt d j) = true)) (fun _ _ _ _ i => d.size - (intOf i).toNat)
    case atStart => exact ⟨0, by omega, rfl, rfl, rfl, rfl, rfl, fun j hj => by omega⟩
    case round =>
      obtain ⟨k, hk, rfl, rfl, rfl, rfl, rfl, hno⟩ := hrel
      by_cases hlt : k < d.size
      · have hb := get_bt d k hlt
        by_cases hx : 48 ≤ bt d k ∧ bt d k < 48 + 10
        · have hx' : (48 : Int) ≤ ((d[k].toNat : Nat) : Int) ∧ ((d[k].toNat : Nat) : Int) < 58 := by rw [hb]; omega
          obtain ⟨hx1, hx2⟩ := hx'
          have HX := hide hx
          clear hb hx
          go_wp2
          go_round
          case rel =>
            refine ⟨k + 1, by omega, by go_num, rfl, rfl, rfl, rfl, fun j hj => ?_⟩
            by_cases e : j = k
            · subst e; simpa [okDig] using unhide HX
            · exact hno.out j (by omega)
          case measure => simp [intOf]; omega
        · have HX : Hid (okDig 10 (bt d k) = false) := by show okDig 10 (bt d k) = false; simp only [okDig]; exact decide_eq_false hx
          have hx' : ((d[k].toNat : Nat) : Int) < 48 ∨ 58 ≤ ((d[k].toNat : Nat) : Int) := by rw [hb]; omega
          clear hb hx
          rcases hx' with hx' | hx'
          all_goals
            go_wp2
            refine bodyPost_ret (results_tmp4 rfl _ _ _) rfl ?_
            rw [fin_bad _ _ _ k hlt (unhide HX)]
            exact ⟨rfl, _, rfl⟩
      · go_wp2
        refine bodyPost_ret (results_tmp4 rfl _ _ _) rfl ?_
        rw [fin_good _ _ _ (by omega) (fun j hj => hno.out j (by omega))]
        exact ⟨rfl, _, rfl⟩

set_option maxHeartbeats 800000 in
theorem way_minus (s d : ByteArray) (w : World) (hl : s.size ≤ 1048576) (h1 : hasPB s ⟨#[48, 111]⟩ = false) (h1' : hasPB s ⟨#[48, 120]⟩ = false) (h0 : 0 < s.size)
    (hc : (((s[0]'h0).toNat : Nat) : Int) = 45) (hd : s.extract 1 s.size = d) (hsz : d.size ≤ 1048576) :
   Calls Try.prog 38 #[.string s] w fun e w' => e = .returned (fin true d 10) ∧ ∃ n, w' = w.drewN n := by
  have hes : s.toList.isEmpty = false := by rw [empty_iff]; exact decide_eq_false (by omega)
  have h0' : (0 : Int) < (s.size : Int) := by omega
  have h01 : (1 : Int) ≤ (s.size : Int) := by omega
  by_cases hemp : d.size = 0
  · have he : d.toList.isEmpty = true := by rw [empty_iff]; exact decide_eq_true hemp
    rw [fin_none _ _ _ hemp]
    clear hemp
    go_enter Try.func38, Try.ntmps38
    go_wp2_with (go_at_call 42; refine (hasPrefix_any _ _ _ hl (by decide)).mono ?_; rintro e w1 ⟨rfl, hw⟩; subst w1)
    go_quiet (fail)
    go_wp2
    refine bodyPost_ret (results_tmp4 rfl _ _ _) rfl ?_
    exact ⟨rfl, _, rfl⟩
  · have he : d.toList.isEmpty = false := by rw [empty_iff]; exact decide_eq_false hemp
    go_enter Try.func38, Try.ntmps38
    go_wp2_with (go_at_call 42; refine (hasPrefix_any _ _ _ hl (by decide)).mono ?_; rintro e w1 ⟨rfl, hw⟩; subst w1)
    go_quiet (fail)
    go_wp2
    clear hc hd
    go_loop [2, 3, 4, 5, 6] (fun t2 t3 t4 t5 i => ∃ k : Nat, k ≤ d.size ∧ i = .int .i64 k ∧ t2 = .bool true ∧ t3 = .string d ∧ t4 = .int .i64 10 ∧ t5 = .bool false ∧ Hid (∀ j : Nat, j < k → okDig 10 (bt d j) = true)) (fun _ _ _ _ i => d.size - (intOf i).toNat)
    case atStart => exact ⟨0, by omega, rfl, rfl, rfl, rfl, rfl, fun j hj => by omega⟩
    case round =>
      obtain ⟨k, hk, rfl, rfl, rfl, rfl, rfl, hno⟩ := hrel
      by_cases hlt : k < d.size
      · have hb := get_bt d k hlt
        by_cases hx : 48 ≤ bt d k ∧ bt d k < 48 + 10
        · have hx' : (48 : Int) ≤ ((d[k].toNat : Nat) : Int) ∧ ((d[k].toNat : Nat) : Int) < 58 := by rw [hb]; omega
          obtain ⟨hx1, hx2⟩ := hx'
          have HX := hide hx
          clear hb hx
          go_wp2
          go_round
          case rel =>
            refine ⟨k + 1, by omega, by go_num, rfl, rfl, rfl, rfl, fun j hj => ?_⟩
            by_cases e : j = k
            · subst e; simpa [okDig] using unhide HX
            · exact hno.out j (by omega)
          case measure => simp [intOf]; omega
        · have HX : Hid (okDig 10 (bt d k) = false) := by show okDig 10 (bt d k) = false; simp only [okDig]; exact decide_eq_false hx
          have hx' : ((d[k].toNat : Nat) : Int) < 48 ∨ 58 ≤ ((d[k].toNat : Nat) : Int) := by rw [hb]; omega
          clear hb hx
          rcases hx' with hx' | hx'
          all_goals
            go_wp2
            refine bodyPost_ret (results_tmp4 rfl _ _ _) rfl ?_
            rw [fin_bad _ _ _ k hlt (unhide HX)]
            exact ⟨rfl, _, rfl⟩
      · go_wp2
        refine bodyPost_ret (results_tmp4 rfl _ _ _) rfl ?_
        rw [fin_good _ _ _ (by omega) (fun j hj => hno.out j (by omega))]
        exact ⟨rfl, _, rfl⟩

end Go.Proofs.Qxb6601440a
