/-
  The law FnSubjectStringParsesBack, proved: the walk out of the contracts of the String methods and of firstIndexOf; the frame of the row is the one that the kit's tool wrote for this function.
-/
import Derived.Test.Qxb6601804aRows
import Derived.WalkKit
import Derived.ProofKit
import Derived.OpenShut
import Derived.ShutString
import Derived.Test.Qxb6601804aPlain
namespace Go.Proofs.Qxb6601804a.fnSubjectStringParsesBack
open Go.ChangeShapes Go.WideShapes Go.ChangeAt Go.RowKit Go.PlainAid
open Go.ChangeMaps (open_string shut_string)
set_option linter.unusedVariables false

theorem own : ownKnob Try.prog.godebug = none := by kernel_rfl

/-! ### STEP 1: THE WALK: the Go text returns true. 'Grown w w'': the world has at most new blocks (Derived/RowKit3.lean). Part the cases AHEAD of 'go_enter' where a test parts the walk; take each callee by a contract of your own. -/
/-- Up to the text: the subject's String. -/
def TextP (t i r : ByteArray) (w : World) (e : Ending) (w' : World) : Prop :=
  ∃ out rest : ByteArray, e = .returned (.string out) ∧ CutAt out t rest 58 ∧ (r.size = 0 ∧ rest = i ∨ 0 < r.size ∧ CutAt rest i r 35) ∧ Grown w w'
theorem text_any (t i r : ByteArray) (w : World) (ht : t.size ≤ 262144) (hi : i.size ≤ 262144) (hr : r.size ≤ 262144) : Calls Try.prog 6 #[.agg #[.string t, .string i, .string r]] w fun e w' => TextP t i r w e w' := by
  by_cases h0 : r.size = 0
  · have hr0 : r = ⟨#[]⟩ := by
      apply ByteArray.ext
      exact Array.eq_empty_of_size_eq_zero h0
    subst hr0
    refine (sub_bare t i w ht hi).mono ?_
    rintro e w1 ⟨rfl, hg⟩
    exact ⟨_, i, rfl, cutAt t colon i rfl, .inl ⟨rfl, rfl⟩, hg⟩
  · refine (sub_rel t i r w ht hi hr (by omega)).mono ?_
    rintro e w1 ⟨rfl, hg⟩
    rw [app4]
    exact ⟨_, _, rfl, cutAt t colon _ rfl, .inr ⟨by omega, cutAt i hash r rfl⟩, hg⟩

set_option maxHeartbeats 4000000 in
set_option maxRecDepth 100000 in
theorem walk_small (t i r : ByteArray) (w : World) (ht : t.size ≤ 262144) (hi : i.size ≤ 262144) (hr : r.size ≤ 262144) :
    Calls Try.prog 3 #[.string t, .string i, .string r] w fun e w' => e = .returned (.bool true) ∧ Grown w w' := by
  go_enter Try.func3, Try.ntmps3
  go_wp2_with fail
  refine (zz_any t i r w (by unfold maxLen; omega) (by unfold maxLen; omega) (by unfold maxLen; omega)).mono ?_
  rintro e w1 ⟨b, rfl, hw⟩
  subst w1
  cases b
  · go_wp2
    go_ret
    exact ⟨rfl, Grown.refl _⟩
  go_wp2_with fail
  refine (fi_any t 58 w (by unfold maxLen; omega)).mono ?_
  rintro e w1 ⟨q, rfl, hq, hw⟩
  subst w1
  rcases hq with ⟨rfl, hnt⟩ | ⟨k, rfl, hk, _, _⟩
  case inr =>
    go_wp2
    go_ret
    exact ⟨rfl, Grown.refl _⟩
  have HNT := hide hnt
  clear hnt
  go_wp2_with fail
  refine (fi_any i 35 w (by unfold maxLen; omega)).mono ?_
  rintro e w1 ⟨q, rfl, hq, hw⟩
  subst w1
  rcases hq with ⟨rfl, hni⟩ | ⟨k, rfl, hk, _, _⟩
  case inr =>
    go_wp2
    go_ret
    exact ⟨rfl, Grown.refl _⟩
  have HNI := hide hni
  clear hni
  go_wp2_with fail
  refine (text_any t i r _ ht hi hr).mono ?_
  rintro e w1 ⟨out, rest, rfl, hcut, hrest, hg⟩
  have HG : Hid (Grown w w1) := Grown.trans (by repeat (first | exact Grown.refl _ | apply Grown.drew | apply Grown.alloc | (refine Grown.setCell ?_ (Nat.le_refl _) _))) hg
  clear hg
  have HC := hide hcut
  have HR := hide hrest
  have hrs : rest.size ≤ 600000 := by
    rcases hrest with ⟨_, h⟩ | ⟨_, h⟩
    · rw [h]; omega
    · rw [h.size]; omega
  have hos := hcut.size
  clear hcut hrest
  go_wp2_with fail
  refine (fi_any out 58 w1 (by unfold maxLen; omega)).mono ?_
  rintro e w2 ⟨q, rfl, hq, hw⟩
  subst w2
  obtain rfl := (unhide HC).find (unhide HNT) hq
  have hfront := (unhide HC).front
  have hback := (unhide HC).rest
  clear hq
  have HOS := hide hos
  have q1 : t.size + 1 ≤ out.size := by omega
  have q2 : out.size ≤ 900000 := by omega
  clear hos
  go_wp2_with fail
  refine (fi_any rest 35 w1 (by unfold maxLen; omega)).mono ?_
  rintro e w2 ⟨q, rfl, hq, hw⟩
  subst w2
  clear hfront hback
  rcases unhide HR with ⟨hr0, hri⟩ | ⟨hr0, hri⟩
  · have hre : r = ⟨#[]⟩ := by
      apply ByteArray.ext
      exact Array.eq_empty_of_size_eq_zero hr0
    subst hri
    subst hre
    obtain rfl := hq.none (unhide HNI)
    clear hq hr0
    go_wp2
    go_ret
    exact ⟨rfl, unhide HG⟩
  · obtain rfl := hri.find (unhide HNI) hq
    have hfront := hri.front
    have hback := hri.rest
    have hz := hri.size
    have q3 : i.size + 1 ≤ rest.size := by omega
    clear hq hri hz
    go_wp2
    go_ret
    exact ⟨rfl, unhide HG⟩

theorem walk (a0 : ByteArray) (a1 : ByteArray) (a2 : ByteArray) (w0 : a0.size ≤ maxLen) (w1 : a1.size ≤ maxLen) (w2 : a2.size ≤ maxLen) (w : World) :
    Calls Try.prog 3 #[.string a0, .string a1, .string a2] w fun e w' => e = .returned (.bool true) ∧ Grown w w' := by
  by_cases h : a0.size ≤ 262144 ∧ a1.size ≤ 262144 ∧ a2.size ≤ 262144
  · exact walk_small a0 a1 a2 w h.1 h.2.1 h.2.2
  · have HH := hide h
    clear h
    go_enter Try.func3, Try.ntmps3
    go_wp2_with fail
    refine (zz_any a0 a1 a2 w w0 w1 w2).mono ?_
    rintro e w1' ⟨b, rfl, hw⟩
    subst w1'
    cases b
    · go_wp2
      go_ret
      exact ⟨rfl, Grown.refl _⟩
    by_cases h0 : a0.size ≤ 262144
    · by_cases h1 : a1.size ≤ 262144
      · have h2 : ¬ a2.size ≤ 262144 := fun h2 => unhide HH ⟨h0, h1, h2⟩
        clear HH
        go_wp2
        go_ret
        exact ⟨rfl, Grown.refl _⟩
      · clear HH
        go_wp2
        go_ret
        exact ⟨rfl, Grown.refl _⟩
    · clear HH
      go_wp2
      go_ret
      exact ⟨rfl, Grown.refl _⟩

/-! ### THE ROW's STEP: WRITTEN OUT: LEAVE IT -/
set_option maxRecDepth 100000 in
theorem lifted (os : Os) (started : os.Started) (H : Type) (enc : TypeId × Value → H) :
    ReturnsInHanded {} Try.checked os 3 .any (Rows.fnSubjectStringParsesBackSpec.pre6 enc Try.prog Try.f3 Rows.fnSubjectStringParsesBackRow.domain false) (Rows.fnSubjectStringParsesBackSpec.post enc Try.prog Try.f3 false true false false) := by
  refine returnsInHanded_of_change (C := Try.checked) own started (by kernel_rfl) Try.func3
    (ChangeSpec.witness6 (enc := enc) (C := Try.checked) false ⟨#[], #[.string ByteArray.empty, .string ByteArray.empty, .string ByteArray.empty], []⟩ 8 (by kernel_rfl) (by kernel_rfl) (by kernel_rfl) (by kernel_rfl)) ?_
  intro W base args ds gs before hval0 hW hcnd _
  have hval : ∀ (j : Nat) t v, Try.f3.params[j]? = some t → args[j]? = some v → Value.okWide Try.prog W .any base t v := hval0
  have hW' := hW
  obtain ⟨p, q, hA0, hV, rfl, hfz, hnd⟩ := hW
  have hA : DataW.TrodAll enc Try.prog W 0 (fun _ => true) true Try.f3.params.toList args.toList ds p := hA0
  rw [Try.params3] at hA hval
  obtain ⟨v0, vs0, d0, ds0, p0, q0, hargs, rfl, rfl, h0, r0⟩ := trodAll_cons hA
  obtain ⟨v1, vs1, d1, ds1, p1, q1, rfl, rfl, rfl, h1, r1⟩ := trodAll_cons r0
  obtain ⟨v2, vs2, d2, ds2, p2, q2, rfl, rfl, rfl, h2, r2⟩ := trodAll_cons r1
  obtain ⟨rfl, rfl, rfl⟩ := trodAll_nil r2
  obtain rfl : args = #[v0, v1, v2] := by cases args; simp_all
  obtain ⟨rfl, rfl⟩ := trodVars_none hV
  obtain ⟨a0, rfl, rfl, rfl, w0⟩ := open_string Try.underlying9 (hval 0 9 v0 rfl rfl) h0
  obtain ⟨a1, rfl, rfl, rfl, w1⟩ := open_string Try.underlying9 (hval 1 9 v1 rfl rfl) h1
  obtain ⟨a2, rfl, rfl, rfl, w2⟩ := open_string Try.underlying9 (hval 2 9 v2 rfl rfl) h2
  clear hA0 hval0
  simp only [List.append_nil] at hW'
  refine (walk a0 a1 a2 w0 w1 w2 W).mono fun e W' ⟨he, hg⟩ => ?_
  subst he
  exact ⟨_, rfl, post_of_same (pa := []) (pv := []) hW' (fun _ _ _ => (trodAll_cons_mk (shut_bool Try.underlying4 _) trodAll_mk0)) (fun sp _ => (trodAll_cons_mk (shut_string Try.underlying9 w0) (trodAll_cons_mk (shut_string Try.underlying9 w1) (trodAll_cons_mk (shut_string Try.underlying9 w2) trodAll_mk0)))) (fun _ _ => rfl) rfl
    (hg.frame _) hg.2.1 (ok_one (by kernel_rfl) rfl (okWide_bool_mk Try.underlying4 _))⟩

theorem over : Rows.fnSubjectStringParsesBackRow.holds Try.pinned (OpenSpec.ofChange Rows.fnSubjectStringParsesBackSpec) :=
  OpenClaim.holds_of_wide 3 Try.f3 rfl rfl rfl rfl rfl rfl rfl ⟨rfl, rfl, rfl, rfl, rfl⟩ rfl rfl rfl rfl rfl (by kernel_rfl) Try.func3 (by kernel_rfl)
    (of_decide_eq_true (by kernel_rfl)) (by unfold Func.isWrapper; first | (rw [if_pos (by decide +kernel)]; kernel_rfl) | (rw [if_neg (by decide +kernel)]; exact ⟨rfl, rfl⟩))
    (fun os started H enc _ => lifted os started H enc)

/-- ████ THE STATEMENT ████ -/
theorem proved : Rows.FnSubjectStringParsesBackSaid :=
  over
end Go.Proofs.Qxb6601804a.fnSubjectStringParsesBack
