/-
  The law FnIntFormMatchesGrammar, proved: the walk out of the contracts in Qxb6601440aIntMatch and the plain law in Qxb6601440aIntPlain; the frame of the row is the one that the kit's tool wrote for this function.
-/
import Derived.Test.Qxb6601440aRows
import Derived.WalkKit
import Derived.ProofKit
import Derived.OpenShut
import Derived.ShutString
import Derived.Test.Qxb6601440aIntPlain
namespace Go.Proofs.Qxb6601440a.fnIntFormMatchesGrammar
open Go.ChangeShapes Go.WideShapes Go.ChangeAt Go.RowKit
open Go.ChangeMaps (open_string shut_string)
set_option linter.unusedVariables false      -- a walk need not use every 'w<i>' (that an integer argument fits its kind)

theorem own : ownKnob Try.prog.godebug = none := by kernel_rfl

/-! ### STEP 1: THE WALK: the Go text returns true. 'Grown w w'': the world has at most new blocks (Derived/RowKit3.lean). Part the cases AHEAD of 'go_enter' where a test parts the walk; take each callee by a contract of your own. -/
theorem grown_drewN (w : World) (n : Nat) : Grown w (w.drewN n) := Grown.refl w

theorem mV_yes (s : ByteArray) (k : Nat) (h : mB s k = true) : matchV s (pfxs k) (bases k) = .tuple #[.string (ext s k), .bool true] := by
  unfold matchV; exact if_pos h
theorem mV_no (s : ByteArray) (k : Nat) (h : mB s k = false) : matchV s (pfxs k) (bases k) = .tuple #[.string ⟨#[]⟩, .bool false] := by
  unfold matchV; exact if_neg (by show ¬ mB s k = true; simp [h])

theorem walk_long (s : ByteArray) (w0 : s.size ≤ maxLen) (h : ¬ s.size ≤ 1048576) (w : World) :
    Calls Try.prog 6 #[.string s] w fun e w' => e = .returned (.bool true) ∧ Grown w w' := by
  have hd : decide (s.size ≤ 1048576) = false := decide_eq_false h
  go_enter Try.func6, Try.ntmps6
  go_wp2_with (go_at_call 22; refine (zzBytesI_any _ _ w0).mono ?_; rintro e w1 ⟨rfl, hw⟩; subst w1)
  go_ret
  exact ⟨rfl, Grown.refl _⟩

theorem pfxs_small (k : Nat) : (pfxs k).size ≤ 1048576 := by
  match k with
  | 0 => decide
  | 1 => decide
  | 2 => decide
  | 3 => decide
  | _ + 4 => exact Nat.zero_le _

set_option maxHeartbeats 1600000 in
theorem walk_none (s : ByteArray) (w0 : s.size ≤ maxLen) (h : s.size ≤ 1048576) (w : World)
    (hf : finV s = .tuple #[.bool false, .string ⟨#[]⟩, .int .i64 0, .bool false]) (h5 : st s 5 = (0, false, ⟨#[]⟩, 0)) :
    Calls Try.prog 6 #[.string s] w fun e w' => e = .returned (.bool true) ∧ Grown w w' := by
  have hd : decide (s.size ≤ 1048576) = true := decide_eq_true h
  have HF := hide hf
  have H5 := hide h5
  clear hf h5
  go_enter Try.func6, Try.ntmps6
  go_wp2_with (go_at_call 22; refine (zzBytesI_any _ _ w0).mono ?_; rintro e w1 ⟨rfl, hw⟩; subst w1)
  refine (zzform_any s _ _ _ _ _ h HF).mono ?_
  rintro e w1 ⟨rfl, n0, hw⟩
  subst w1
  go_wp2
  go_loopw [7, 8, 9, 10, 11] (fun t7 t8 t9 t10 i wr => ∃ k n : Nat, k ≤ 5 ∧ i = .int .i64 k ∧ t7 = .int .i64 (st s k).1 ∧ t8 = .bool (st s k).2.1 ∧ t9 = .string (st s k).2.2.1 ∧ t10 = .int .i64 (st s k).2.2.2 ∧ wr = w.drewN n) (fun _ _ _ _ i _ => 5 - (intOf i).toNat)
  case atStart => exact ⟨0, _, by omega, rfl, rfl, rfl, rfl, rfl, rfl⟩
  case round =>
    obtain ⟨k, n, hk, rfl, rfl, rfl, rfl, rfl, rfl⟩ := hrel
    by_cases hlt : k < 5
    · have hbd := st_bd s k
      have hp := pfxs_small k
      cases hm : mB s k
      · have HV := hide (mV_no s k hm)
        have HS := hide (st_no s k hm)
        clear hm
        go_wp2_with (first | (go_at_call 24; refine (spec_any k hlt _).mono ?_; rintro e w1 ⟨rfl, hw⟩; subst w1) | (go_at_call 25; refine (match_any s (pfxs k) (bases k) _ h hp).mono ?_; rintro e w1 ⟨rfl, n1, hw⟩; subst w1; rw [HV.out]))
        go_roundw
        case rel => exact ⟨k + 1, _, by omega, by go_num, by rw [HS.out], by rw [HS.out], by rw [HS.out], by rw [HS.out], rfl⟩
        case measure => simp [intOf]; omega
      · have HV := hide (mV_yes s k hm)
        have HS := hide (st_yes s k hm)
        clear hm
        go_wp2_with (first | (go_at_call 24; refine (spec_any k hlt _).mono ?_; rintro e w1 ⟨rfl, hw⟩; subst w1) | (go_at_call 25; refine (match_any s (pfxs k) (bases k) _ h hp).mono ?_; rintro e w1 ⟨rfl, n1, hw⟩; subst w1; rw [HV.out]))
        go_roundw
        case rel => exact ⟨k + 1, _, by omega, by go_num, by rw [HS.out], by rw [HS.out], by rw [HS.out], by rw [HS.out], rfl⟩
        case measure => simp [intOf]; omega
    · have hk5 : k = 5 := by omega
      subst hk5
      have h5 := H5.out
      go_wp2
      go_ret
      exact ⟨rfl, grown_drewN _ _⟩

set_option maxHeartbeats 1600000 in
theorem walk_one (s : ByteArray) (w0 : s.size ≤ maxLen) (h : s.size ≤ 1048576) (w : World) (nn : Bool) (d : ByteArray) (b : Int)
    (hf : finV s = .tuple #[.bool nn, .string d, .int .i64 b, .bool true]) (h5 : st s 5 = (1, nn, d, b)) :
    Calls Try.prog 6 #[.string s] w fun e w' => e = .returned (.bool true) ∧ Grown w w' := by
  have hd : decide (s.size ≤ 1048576) = true := decide_eq_true h
  have HF := hide hf
  have H5 := hide h5
  clear hf h5
  go_enter Try.func6, Try.ntmps6
  go_wp2_with (go_at_call 22; refine (zzBytesI_any _ _ w0).mono ?_; rintro e w1 ⟨rfl, hw⟩; subst w1)
  refine (zzform_any s _ _ _ _ _ h HF).mono ?_
  rintro e w1 ⟨rfl, n0, hw⟩
  subst w1
  go_wp2
  go_loopw [7, 8, 9, 10, 11] (fun t7 t8 t9 t10 i wr => ∃ k n : Nat, k ≤ 5 ∧ i = .int .i64 k ∧ t7 = .int .i64 (st s k).1 ∧ t8 = .bool (st s k).2.1 ∧ t9 = .string (st s k).2.2.1 ∧ t10 = .int .i64 (st s k).2.2.2 ∧ wr = w.drewN n) (fun _ _ _ _ i _ => 5 - (intOf i).toNat)
  case atStart => exact ⟨0, _, by omega, rfl, rfl, rfl, rfl, rfl, rfl⟩
  case round =>
    obtain ⟨k, n, hk, rfl, rfl, rfl, rfl, rfl, rfl⟩ := hrel
    by_cases hlt : k < 5
    · have hbd := st_bd s k
      have hp := pfxs_small k
      cases hm : mB s k
      · have HV := hide (mV_no s k hm)
        have HS := hide (st_no s k hm)
        clear hm
        go_wp2_with (first | (go_at_call 24; refine (spec_any k hlt _).mono ?_; rintro e w1 ⟨rfl, hw⟩; subst w1) | (go_at_call 25; refine (match_any s (pfxs k) (bases k) _ h hp).mono ?_; rintro e w1 ⟨rfl, n1, hw⟩; subst w1; rw [HV.out]))
        go_roundw
        case rel => exact ⟨k + 1, _, by omega, by go_num, by rw [HS.out], by rw [HS.out], by rw [HS.out], by rw [HS.out], rfl⟩
        case measure => simp [intOf]; omega
      · have HV := hide (mV_yes s k hm)
        have HS := hide (st_yes s k hm)
        clear hm
        go_wp2_with (first | (go_at_call 24; refine (spec_any k hlt _).mono ?_; rintro e w1 ⟨rfl, hw⟩; subst w1) | (go_at_call 25; refine (match_any s (pfxs k) (bases k) _ h hp).mono ?_; rintro e w1 ⟨rfl, n1, hw⟩; subst w1; rw [HV.out]))
        go_roundw
        case rel => exact ⟨k + 1, _, by omega, by go_num, by rw [HS.out], by rw [HS.out], by rw [HS.out], by rw [HS.out], rfl⟩
        case measure => simp [intOf]; omega
    · have hk5 : k = 5 := by omega
      subst hk5
      have h5 := H5.out
      go_wp2
      go_ret
      exact ⟨rfl, grown_drewN _ _⟩

theorem walk (a0 : ByteArray) (w0 : a0.size ≤ maxLen) (w : World) :
    Calls Try.prog 6 #[.string a0] w fun e w' => e = .returned (.bool true) ∧ Grown w w' := by
  by_cases h : a0.size ≤ 1048576
  · rcases law a0 with ⟨hf, h5⟩ | ⟨n, d, b, hf, h5⟩
    · exact walk_none a0 w0 h w hf h5
    · exact walk_one a0 w0 h w n d b hf h5
  · exact walk_long a0 w0 h w

/-! ### THE ROW's STEP: WRITTEN OUT: LEAVE IT -/
set_option maxRecDepth 100000 in
theorem lifted (os : Os) (started : os.Started) (H : Type) (enc : TypeId × Value → H) :
    ReturnsInHanded {} Try.checked os 6 .any (Rows.fnIntFormMatchesGrammarSpec.pre6 enc Try.prog Try.f6 Rows.fnIntFormMatchesGrammarRow.domain false) (Rows.fnIntFormMatchesGrammarSpec.post enc Try.prog Try.f6 false true false false) := by
  refine returnsInHanded_of_change (C := Try.checked) own started (by kernel_rfl) Try.func6
    (ChangeSpec.witness6 (enc := enc) (C := Try.checked) false ⟨#[], #[.string ByteArray.empty], []⟩ 8 (by kernel_rfl) (by kernel_rfl) (by kernel_rfl) (by kernel_rfl)) ?_
  intro W base args ds gs before hval0 hW hcnd _
  have hval : ∀ (j : Nat) t v, Try.f6.params[j]? = some t → args[j]? = some v → Value.okWide Try.prog W .any base t v := hval0
  have hW' := hW
  obtain ⟨p, q, hA0, hV, rfl, hfz, hnd⟩ := hW
  have hA : DataW.TrodAll enc Try.prog W 0 (fun _ => true) true Try.f6.params.toList args.toList ds p := hA0
  rw [Try.params6] at hA hval
  obtain ⟨v0, vs0, d0, ds0, p0, q0, hargs, rfl, rfl, h0, r0⟩ := trodAll_cons hA
  obtain ⟨rfl, rfl, rfl⟩ := trodAll_nil r0
  obtain rfl : args = #[v0] := by cases args; simp_all
  obtain ⟨rfl, rfl⟩ := trodVars_none hV
  obtain ⟨a0, rfl, rfl, rfl, w0⟩ := open_string Try.underlying9 (hval 0 9 v0 rfl rfl) h0
  clear hA0 hval0
  simp only [List.append_nil] at hW'
  refine (walk a0 w0 W).mono fun e W' ⟨he, hg⟩ => ?_
  subst he
  exact ⟨_, rfl, post_of_same (pa := []) (pv := []) hW' (fun _ _ _ => (trodAll_cons_mk (shut_bool Try.underlying4 _) trodAll_mk0)) (fun sp _ => (trodAll_cons_mk (shut_string Try.underlying9 w0) trodAll_mk0)) (fun _ _ => rfl) rfl
    (hg.frame _) hg.2.1 (ok_one (by kernel_rfl) rfl (okWide_bool_mk Try.underlying4 _))⟩

theorem over : Rows.fnIntFormMatchesGrammarRow.holds Try.pinned (OpenSpec.ofChange Rows.fnIntFormMatchesGrammarSpec) :=
  OpenClaim.holds_of_wide 6 Try.f6 rfl rfl rfl rfl rfl rfl rfl ⟨rfl, rfl, rfl, rfl, rfl⟩ rfl rfl rfl rfl rfl (by kernel_rfl) Try.func6 (by kernel_rfl)
    (of_decide_eq_true (by kernel_rfl)) (by unfold Func.isWrapper; first | (rw [if_pos (by decide +kernel)]; kernel_rfl) | (rw [if_neg (by decide +kernel)]; exact ⟨rfl, rfl⟩))
    (fun os started H enc _ => lifted os started H enc)

/-- ████ THE STATEMENT ████ -/
theorem proved : Rows.FnIntFormMatchesGrammarSaid :=
  over
end Go.Proofs.Qxb6601440a.fnIntFormMatchesGrammar
