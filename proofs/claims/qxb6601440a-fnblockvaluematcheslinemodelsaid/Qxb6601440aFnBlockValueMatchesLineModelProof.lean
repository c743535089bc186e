/-
  The law FnBlockValueMatchesLineModel, proved: the walk out of the contracts in the Bv texts; the frame of the row after the kit's own frames for slices.
-/
import Derived.Test.Qxb6601440aBvStr
import Derived.Test.Qxb6601440aBvM3
import Derived.OpenShut
import Derived.ShutString
import Derived.ChangeOld
import Derived.Below
import Derived.Deep.Matrix
namespace Go.Proofs.Qxb6601440a.fnBlockValueMatchesLineModel
open Go.ChangeShapes Go.WideShapes Go.ChangeAt Go.RowKit
open Go.Proofs.Qxb6601440a.Bv
set_option linter.unusedVariables false

theorem own : ownKnob Try.prog.godebug = none := by kernel_rfl
theorem laidOut : laidOutB Try.prog = true := by kernel_rfl
theorem cells38 : Try.prog.cellsOf 38 = 1 := by kernel_rfl
theorem cells5 : Try.prog.cellsOf 5 = 1 := by kernel_rfl
theorem cells4 : Try.prog.cellsOf 4 = 1 := by kernel_rfl

set_option maxHeartbeats 4000000 in
theorem walk (a0 a1 : Option Addr) (n m c0 c1 : Nat) (A : Nat → Option Addr) (L C : Nat → Nat) (z : Nat → Nat → Int) (E : Nat → Bool) (f : Bool) (ch : Int) (w : World)
    (hn : n ≤ maxLen) (hm : m ≤ maxLen) (hc0 : a0 = none → c0 = 0) (hc1 : a1 = none → c1 = 0) (ht : TX w a0 n A L C z) (hf : FL w a1 m E) :
    Calls Try.prog 3 #[.slice a0 n c0, .slice a1 m c1, .bool f, .int .u8 ch] w fun e w' => e = .returned (.bool true) ∧ Below w.heap.size w w' := by
  have HT := hide ht
  have HF := hide hf
  have HC0 := hide hc0
  have HC1 := hide hc1
  clear ht hf hc0 hc1
  go_enter Try.func3, Try.ntmps3
  go_wp2_with fail
  refine (zz10_any a0 n c0 m c1 a1 A L C z f ch w hn hm (unhide HT)).mono ?_
  rintro e w1 ⟨⟨r, rfl⟩, hw⟩
  subst w1
  cases r
  · go_wp2_with fail
    go_ret
    exact ⟨rfl, Below.refl _ _⟩
  by_cases hn2 : n ≤ 65536
  case neg =>
    unfold maxLen at hn hm
    go_wp2_with fail
    go_ret
    exact ⟨rfl, Below.refl _ _⟩
  by_cases hm2 : m ≤ 65536
  case neg =>
    unfold maxLen at hn hm
    go_wp2_with fail
    go_ret
    exact ⟨rfl, Below.refl _ _⟩
  go_wp2_with fail
  refine (size_any a0 n c0 m c1 a1 A L C z w hn hm (unhide HT)).mono ?_
  rintro e w1 ⟨⟨r, rfl, hr⟩, hw⟩
  subst w1
  cases r
  · go_wp2_with fail
    go_ret
    exact ⟨rfl, Below.refl _ _⟩
  have hsum : sumL L n ≤ 1048576 := by have := (hr rfl).2.2; omega
  have HSUM := hide hsum
  clear hr hsum
  go_wp2_with fail
  refine (well_any a0 n c0 m c1 a1 A L C z E w hn2 hm2 (unhide HT) (unhide HF)).mono ?_
  rintro e w1 ⟨⟨r, rfl, hr⟩, hw⟩
  subst w1
  cases r
  · go_wp2_with fail
    go_ret
    exact ⟨rfl, Below.refl _ _⟩
  have hwf := hr rfl
  obtain rfl : n = m := hwf.1
  have HW := hide hwf
  clear hr hwf
  go_wp2_with fail
  refine (cloneT_any a0 n c0 A L C z w hn2 (unhide HC0) (unhide HT) (fun i hi => by have h1 := sumL_mono L (show i + 1 ≤ n by omega); rw [sumL_succ] at h1; have := unhide HSUM; omega)).mono ?_
  rintro e w1 ⟨a0', c0', A', C', rfl, ht1, hb1⟩
  have HF1 := hide ((unhide HF).later hb1)
  have HT1 := hide ht1
  have HB1 := hide hb1
  clear ht1 hb1 HT HF
  go_wp2_with fail
  refine (cloneF_any a1 n c1 E w1 hn2 (unhide HC1) (unhide HF1)).mono ?_
  rintro e w2 ⟨a1', c1', rfl, hf2, hb2⟩
  have HT2 := hide ((unhide HT1).later hb2)
  have HF2 := hide hf2
  have HB2 : Hid (Below w.heap.size w w2) := (unhide HB1).trans (hb2.mono (unhide HB1).size)
  clear hf2 hb2 HT1 HF1 HB1
  obtain ⟨sS, hsS⟩ : ∃ s, Bv.strOf (blockL f E L z n ch) = s := ⟨_, rfl⟩
  have HS := hide hsS
  clear hsS
  go_wp2_with fail
  refine (zzbv_s a0' a1' n c0' c1' A' L C' z E f ch w2 sS HS hn2 HT2 HF2 HW HSUM).mono ?_
  rintro e w3 ⟨rfl, hb3⟩
  have HT3 := hide ((unhide HT2).later hb3)
  have HF3 := hide ((unhide HF2).later hb3)
  have HB3 : Hid (Below w.heap.size w w3) := (unhide HB2).trans (hb3.mono (unhide HB2).size)
  clear hb3 HT2 HF2 HB2
  go_wp2_with fail
  refine (model_any a0' a1' n c0' c1' A' L C' z E f ch w3 hn2 (unhide HT3) (unhide HF3) (unhide HW) (unhide HSUM)).mono ?_
  rintro e w4 ⟨rfl, hb4⟩
  rw [unhide HS]
  have HB4 : Hid (Below w.heap.size w w4) := (unhide HB3).trans (hb4.mono (unhide HB3).size)
  clear hb4 HT3 HF3 HB3
  go_wp2
  go_ret
  exact ⟨rfl, unhide HB4⟩

theorem open_texts {H : Type} {enc : TypeId × Value → H} {W : World} {a0 : Option Addr} {len0 cap0 : Nat} {d : DataW H} {p : List MemPlace} (h : DataW.Trod enc Try.prog W 0 (fun _ => true) true 22 (.slice a0 len0 cap0) d p) :
    len0 ≤ maxLen ∧ (a0 = none → cap0 = 0) ∧ ∃ A L C z, TX W a0 len0 A L C z := by
  obtain ⟨fuel, hf⟩ := h
  rcases Go.Deep.open_int_rows Try.underlying22 Try.underlying38 Try.underlying5 cells38 cells5 hf with ⟨hcs, _⟩ | ⟨a, len, cap, A, L, C, Z, hcs, _, hl, hm, _, hr⟩
  · simp [Value.cells] at hcs
    obtain ⟨rfl, rfl, rfl⟩ := hcs
    exact ⟨Nat.zero_le _, fun _ => rfl, fun _ => none, fun _ => 0, fun _ => 0, fun _ _ => 0, fun _ => rfl, fun x hx => (by cases hx), fun i hi => by omega⟩
  · simp [Value.cells] at hcs
    obtain ⟨rfl, rfl, rfl⟩ := hcs
    refine ⟨by omega, fun h => (by cases h), A, L, C, fun i j => (Z i).getD j 0, fun h => (by cases h), fun x hx i hi => ?_, fun i hi => ?_⟩
    · cases hx
      exact (hr i (by omega)).1
    · obtain ⟨r1, r2, r3, r4, r5, r6, r7⟩ := hr i (by omega)
      refine ⟨by omega, fun h => ?_, fun y hy j hj => (r7 y hy).2 j (by omega)⟩
      have := r6 h
      omega

theorem open_flags {H : Type} {enc : TypeId × Value → H} {W : World} {a0 : Option Addr} {len0 cap0 : Nat} {d : DataW H} {p : List MemPlace} (h : DataW.Trod enc Try.prog W 0 (fun _ => true) true 23 (.slice a0 len0 cap0) d p) :
    len0 ≤ maxLen ∧ (a0 = none → cap0 = 0) ∧ ∃ E, FL W a0 len0 E := by
  obtain ⟨fuel, hf⟩ := h
  rcases Go.Deep.open_slice1 Try.underlying23 cells4 hf with ⟨hcs, _⟩ | ⟨a, len, cap, m, n, V, D, Pl, hcs, _, hl, hm, hmm, _, hr⟩
  · simp [Value.cells] at hcs
    obtain ⟨rfl, rfl, rfl⟩ := hcs
    exact ⟨Nat.zero_le _, fun _ => rfl, fun _ => false, fun _ => rfl, fun x hx => by cases hx⟩
  · simp [Value.cells] at hcs
    obtain ⟨rfl, rfl, rfl⟩ := hcs
    simp only [if_true] at hmm
    obtain ⟨E, hE⟩ := Go.Deep.choose_lt (α := Bool) (n := len0) (p := fun i b => W.cell? (a.add i) = some (.bool b)) (fun i hi => by
      obtain ⟨h1, h2⟩ := hr i (by omega)
      obtain ⟨b, hb, _⟩ := DataW.trod_bool Try.underlying4 h2
      simp at hb
      exact ⟨b, by rw [h1, hb]⟩)
    refine ⟨by omega, fun h => (by cases h), E, fun h => (by cases h), fun x hx i hi => ?_⟩
    cases hx
    exact hE i hi

set_option maxRecDepth 100000 in
theorem lifted (os : Os) (started : os.Started) (H : Type) (enc : TypeId × Value → H) :
    ReturnsInHanded {} Try.checked os 3 .any (Rows.fnBlockValueMatchesLineModelSpec.pre6 enc Try.prog Try.f3 Rows.fnBlockValueMatchesLineModelRow.domain false) (Rows.fnBlockValueMatchesLineModelSpec.post enc Try.prog Try.f3 false true false false) := by
  refine returnsInHanded_of_change (C := Try.checked) own started (by kernel_rfl) Try.func3
    (ChangeSpec.witness6 (enc := enc) (C := Try.checked) false ⟨#[], #[.slice none 0 0, .slice none 0 0, .bool false, .int .u8 0], []⟩ 8 (by kernel_rfl) (by kernel_rfl) (by kernel_rfl) (by kernel_rfl)) ?_
  intro W base args ds gs before hval0 hW hcnd _
  have hval : ∀ (j : Nat) t v, Try.f3.params[j]? = some t → args[j]? = some v → Value.okWide Try.prog W .any base t v := hval0
  have hW' := hW
  obtain ⟨p, q, hA0, hV, rfl, hfz, hnd⟩ := hW
  have hA : DataW.TrodAll enc Try.prog W 0 (fun _ => true) true Try.f3.params.toList args.toList ds p := hA0
  rw [Try.params3] at hA hval
  obtain ⟨v0, vs0, d0, ds0, p0, q0, hargs, rfl, rfl, h0, r0⟩ := trodAll_cons hA
  obtain ⟨v1, vs1, d1, ds1, p1, q1, rfl, rfl, rfl, h1, r1⟩ := trodAll_cons r0
  obtain ⟨v2, vs2, d2, ds2, p2, q2, rfl, rfl, rfl, h2, r2⟩ := trodAll_cons r1
  obtain ⟨v3, vs3, d3, ds3, p3, q3, rfl, rfl, rfl, h3, r3⟩ := trodAll_cons r2
  obtain ⟨rfl, rfl, rfl⟩ := trodAll_nil r3
  obtain rfl : args = #[v0, v1, v2, v3] := by cases args; simp_all
  obtain ⟨rfl, rfl⟩ := trodVars_none hV
  obtain ⟨a0, len0, cap0, rfl⟩ := okWide_slice Try.underlying22 (hval 0 22 v0 rfl rfl)
  obtain ⟨a1, len1, cap1, rfl⟩ := okWide_slice Try.underlying23 (hval 1 23 v1 rfl rfl)
  have k0 := h0
  have k1 := h1
  have lt0 : ∀ x ∈ p0, x.block < W.heap.size := by obtain ⟨m, hm⟩ := k0; exact DataW.trod_lt m _ _ _ hm
  have lt1 : ∀ x ∈ p1, x.block < W.heap.size := by obtain ⟨m, hm⟩ := k1; exact DataW.trod_lt m _ _ _ hm
  obtain ⟨g0, g1, A, L, C, z, ht⟩ := open_texts h0
  obtain ⟨g2, g3, E, hf⟩ := open_flags h1
  obtain ⟨b2, rfl, rfl, rfl⟩ := open_bool Try.underlying4 (hval 2 4 v2 rfl rfl) h2
  obtain ⟨a3, rfl, rfl, rfl, w3⟩ := open_int Try.underlying5 (hval 3 5 v3 rfl rfl) h3
  clear hA0 hval0
  refine (walk a0 a1 len0 len1 cap0 cap1 A L C z E b2 a3 W g0 g2 g1 g3 ht hf).mono fun e W' ⟨he, bel⟩ => ?_
  subst he
  exact ⟨_, rfl, _, _, _, [], _, [], hW', trodAll_mk1 (shut_bool Try.underlying4 _), (trodAll_cons_mk (Below.trod laidOut (by kernel_rfl) (of_decide_eq_true (by kernel_rfl)) k0 bel lt0) (trodAll_cons_mk (Below.trod laidOut (by kernel_rfl) (of_decide_eq_true (by kernel_rfl)) k1 bel lt1) (trodAll_cons_mk (shut_bool Try.underlying4 _) (trodAll_cons_mk (shut_int Try.underlying5 w3) trodAll_mk0)))), rfl, bel.frame _, fun h => by cases h⟩

theorem over : Rows.fnBlockValueMatchesLineModelRow.holds Try.pinned (OpenSpec.ofChange Rows.fnBlockValueMatchesLineModelSpec) :=
  OpenClaim.holds_of_wide 3 Try.f3 rfl rfl rfl rfl rfl rfl rfl ⟨rfl, rfl, rfl, rfl, rfl⟩ rfl rfl rfl rfl rfl (by kernel_rfl) Try.func3 (by kernel_rfl)
    (of_decide_eq_true (by kernel_rfl)) (by unfold Func.isWrapper; first | (rw [if_pos (by decide +kernel)]; kernel_rfl) | (rw [if_neg (by decide +kernel)]; exact ⟨rfl, rfl⟩))
    (fun os started H enc _ => lifted os started H enc)

/-- THE STATEMENT -/
theorem proved : Rows.FnBlockValueMatchesLineModelSaid := over
end Go.Proofs.Qxb6601440a.fnBlockValueMatchesLineModel
