/-
  The law FnEncodeBase58KeepsOrder, proved: the walk out of the contracts of EncodeBase58 and of the comparing functions; the frame of the row is the one that the kit's tool wrote for this function.
-/
import Derived.Test.Qxb6601650aRows
import Derived.WalkKit
import Derived.ProofKit
import Derived.OpenShut
import Derived.ShutString
import Derived.ChangeOld
import Derived.Below
import Derived.Test.Qxb6601650aOrd
import Derived.Test.Qxb6601650aOpen
namespace Go.Proofs.Qxb6601650a.fnEncodeBase58KeepsOrder
open Go.ChangeShapes Go.WideShapes Go.ChangeAt Go.RowKit
open Go.ChangeMaps (open_string shut_string)
set_option linter.unusedVariables false

theorem own : ownKnob Try.prog.godebug = none := by kernel_rfl
theorem laidOut : laidOutB Try.prog = true := by kernel_rfl

/-- WHAT THE WALK IS TOLD OF A SLICE OF INTEGERS THAT CAME IN: it is nil; or it leads to a row of 'cap' cells, the numbers 'zs' (the first 'len' are its elements, the rest its spare room), each fitting its kind. -/
def IsRow (k : IntKind) (w : World) (a : Option Addr) (len cap : Nat) (zs : List Int) : Prop :=
  (a = none ∧ len = 0 ∧ cap = 0 ∧ zs = []) ∨
  ∃ x, a = some x ∧ len ≤ cap ∧ cap ≤ maxLen ∧ zs.length = cap ∧ (∀ i, i < zs.length → w.cell? (x.add i) = some (.int k (zs.getD i 0))) ∧ ∀ n ∈ zs, (Lit.int k n).wf = true

/-! ### STEP 1: THE WALK: the Go text returns true, AND WRITES NOTHING THAT WAS THERE: 'Below w.heap.size w w'' (Derived/Below.lean: '.refl', '.alloc', '.drew', '.setCell' at a new block, '.trans'). Open each 'IsRow' by 'rcases' AHEAD of 'go_enter'; part every test ahead of the walk. -/
set_option maxHeartbeats 2000000 in
set_option maxRecDepth 100000 in
theorem walk_same (a b : Option Addr) (n ca cb : Nat) (z1 z2 : Nat → Nat) (w : World) (hn : n ≤ 4096) (ha : a = none → ca = 0) (hb : b = none → cb = 0) (hx1 : LX w a n z1) (hx2 : LX w b n z2) (hz1 : ∀ i, i < n → z1 i < 256) (hz2 : ∀ i, i < n → z2 i < 256) :
    Calls Try.prog 5 #[.slice a n ca, .slice b n cb] w fun e w' => e = .returned (.bool true) ∧ Below w.heap.size w w' := by
  have HX := hide hx1
  have HY := hide hx2
  have HZ1 := hide hz1
  have HZ2 := hide hz2
  have HA := hide ha
  have HB := hide hb
  clear hx1 hx2 hz1 hz2 ha hb
  go_enter Try.func5, Try.ntmps5
  go_wp2_with fail
  refine (zz12_any a b n ca n cb w (by unfold maxLen; omega) (by unfold maxLen; omega)).mono ?_
  rintro e w1 ⟨t, rfl, hw⟩
  subst w1
  cases t
  · go_wp2
    go_ret
    exact ⟨rfl, Below.refl _ _⟩
  go_wp2_with fail
  refine (clone_any a n ca z1 w (by omega) (unhide HA) (unhide HX)).mono ?_
  rintro e w1 ⟨a1, rfl, hx1, hb1⟩
  have HX1 := hide hx1
  have HY1 := hide ((unhide HY).later hb1)
  have HB1 := hide hb1
  clear hx1 hb1 HX HY
  go_wp2_with fail
  refine (clone_any b n cb z2 w1 (by omega) (unhide HB) (unhide HY1)).mono ?_
  rintro e w2 ⟨a2, rfl, hx2, hb2⟩
  have HX2 := hide ((unhide HX1).later hb2)
  have HY2 := hide hx2
  have HB2 : Hid (Below w.heap.size w w2) := (unhide HB1).trans (hb2.mono (unhide HB1).size)
  clear hx2 hb2 HX1 HY1 HB1
  go_wp2_with fail
  refine (enc_any a1 n z1 w2 hn (unhide HX2) (unhide HZ1)).mono ?_
  rintro e w3 ⟨c1, d1, henc1, rfl, hb3⟩
  have HX3 := hide ((unhide HX2).later hb3)
  have HY3 := hide ((unhide HY2).later hb3)
  have HB3 : Hid (Below w.heap.size w w3) := (unhide HB2).trans (hb3.mono (unhide HB2).size)
  have HE1 := hide henc1
  clear hb3 henc1 HX2 HY2 HB2
  go_wp2_with fail
  refine (enc_any a2 n z2 w3 hn (unhide HY3) (unhide HZ2)).mono ?_
  rintro e w4 ⟨c2, d2, henc2, rfl, hb4⟩
  have HX4 := hide ((unhide HX3).later hb4)
  have HY4 := hide ((unhide HY3).later hb4)
  have HB4 : Hid (Below w.heap.size w w4) := (unhide HB3).trans (hb4.mono (unhide HB3).size)
  have HE2 := hide henc2
  clear hb4 henc2 HX3 HY3 HB3
  have g1 : (strOf (encL c1 d1)).size = c1 + d1.length := by rw [strOf_size, encL_len]
  have g2 : (strOf (encL c2 d2)).size = c2 + d2.length := by rw [strOf_size, encL_len]
  have u1 := (unhide HE1).upper (unhide HZ1)
  have u2 := (unhide HE2).upper (unhide HZ2)
  have HPAD : Hid (∀ N, (strOf (encL c1 d1)).size ≤ N → (strOf (encL c2 d2)).size ≤ N → N ≤ 20000 → ∀ r : Int, Cmp z1 z2 n r → ∀ w, Calls Try.prog 14 #[.string (strOf (encL c1 d1)), .string (strOf (encL c2 d2)), .int .i64 (N : Nat)] w fun e w' => ∃ m, e = .returned (.int .i64 r) ∧ w' = w.drewN m) := by
    intro N l1 l2 hN r hr w
    refine (cmpPad_any _ _ N _ _ w (pads c1 d1 (unhide HE1).dig N (by omega)) (pads c2 d2 (unhide HE2).dig N (by omega)) hN).mono ?_
    rintro e w' ⟨q, rfl, hq, m, rfl⟩
    have := order_same (unhide HE1) (unhide HE2) (unhide HZ1) (unhide HZ2) (by omega) (by omega) hr hq
    subst this
    exact ⟨m, rfl, rfl⟩
  have k1 : (strOf (encL c1 d1)).size ≤ 9999 := by omega
  have k2 : (strOf (encL c2 d2)).size ≤ 9999 := by omega
  obtain ⟨s1, hs1⟩ : ∃ s, strOf (encL c1 d1) = s := ⟨_, rfl⟩
  obtain ⟨s2, hs2⟩ : ∃ s, strOf (encL c2 d2) = s := ⟨_, rfl⟩
  rw [hs1] at HPAD k1 ⊢
  rw [hs2] at HPAD k2 ⊢
  clear hs1 hs2 g1 g2 u1 u2 HE1 HE2
  by_cases hmax : s1.size < s2.size
  · go_wp2_with fail
    refine (cmp_any a1 a2 n n n z1 z2 w4 hn (unhide HX4) (unhide HY4)).mono ?_
    rintro e w5 ⟨r, rfl, hr, m, rfl⟩
    have HRR := hide hr
    clear hr
    go_wp2_with fail
    refine (unhide HPAD s2.size (by omega) (by omega) (by omega) r (unhide HRR) _).mono ?_
    rintro e w6 ⟨m2, rfl, rfl⟩
    go_wp2
    go_ret
    exact ⟨rfl, below_drewN (unhide HB4) _⟩
  · go_wp2_with fail
    refine (cmp_any a1 a2 n n n z1 z2 w4 hn (unhide HX4) (unhide HY4)).mono ?_
    rintro e w5 ⟨r, rfl, hr, m, rfl⟩
    have HRR := hide hr
    clear hr
    go_wp2_with fail
    refine (unhide HPAD s1.size (by omega) (by omega) (by omega) r (unhide HRR) _).mono ?_
    rintro e w6 ⟨m2, rfl, rfl⟩
    go_wp2
    go_ret
    exact ⟨rfl, below_drewN (unhide HB4) _⟩

set_option maxHeartbeats 1000000 in
theorem walk_other (a b : Option Addr) (n ca m cb : Nat) (w : World) (hn : n ≤ maxLen) (hm : m ≤ maxLen) (h : ¬ (n = m ∧ n ≤ 4096)) :
    Calls Try.prog 5 #[.slice a n ca, .slice b m cb] w fun e w' => e = .returned (.bool true) ∧ Below w.heap.size w w' := by
  have HH := hide h
  clear h
  go_enter Try.func5, Try.ntmps5
  go_wp2_with fail
  refine (zz12_any a b n ca m cb w hn hm).mono ?_
  rintro e w1 ⟨t, rfl, hw⟩
  subst w1
  cases t
  · go_wp2
    go_ret
    exact ⟨rfl, Below.refl _ _⟩
  by_cases h1 : n ≤ 4096
  · by_cases h2 : m ≤ 4096
    · have hne : ¬ ((n : Int) = (m : Int)) := fun e => unhide HH ⟨by omega, h1⟩
      have hne2 : ((n : Int) == (m : Int)) = false := by rw [beq_eq_false_iff_ne]; exact hne
      have hne3 : ((n : Int) != (m : Int)) = true := by rw [bne, hne2]; rfl
      clear HH
      go_wp2
      go_ret
      exact ⟨rfl, Below.refl _ _⟩
    · clear HH
      go_wp2
      go_ret
      exact ⟨rfl, Below.refl _ _⟩
  · clear HH
    go_wp2
    go_ret
    exact ⟨rfl, Below.refl _ _⟩

theorem walk (a0 : Option Addr) (len0 cap0 : Nat) (z0 : List Int) (a1 : Option Addr) (len1 cap1 : Nat) (z1 : List Int) (w : World) (w0 : IsRow .u8 w a0 len0 cap0 z0) (w1 : IsRow .u8 w a1 len1 cap1 z1) :
    Calls Try.prog 5 #[.slice a0 len0 cap0, .slice a1 len1 cap1] w fun e w' => e = .returned (.bool true) ∧ Below w.heap.size w w' := by
  obtain ⟨h1, h2, z1, h3, h4⟩ := row_view w0
  obtain ⟨k1, k2, z2, k3, k4⟩ := row_view w1
  by_cases h : len0 = len1 ∧ len0 ≤ 4096
  · obtain ⟨he, hl⟩ := h
    subst he
    exact walk_same a0 a1 len0 cap0 cap1 z1 z2 w hl h2 k2 h3 k3 h4 k4
  · exact walk_other a0 a1 len0 cap0 len1 cap1 w h1 k1 h

/-! ### THE ROW's STEP: WRITTEN OUT: LEAVE IT -/
set_option maxRecDepth 100000 in
theorem lifted (os : Os) (started : os.Started) (H : Type) (enc : TypeId × Value → H) :
    ReturnsInHanded {} Try.checked os 5 .any (Rows.fnEncodeBase58KeepsOrderSpec.pre6 enc Try.prog Try.f5 Rows.fnEncodeBase58KeepsOrderRow.domain false) (Rows.fnEncodeBase58KeepsOrderSpec.post enc Try.prog Try.f5 false true false false) := by
  refine returnsInHanded_of_change (C := Try.checked) own started (by kernel_rfl) Try.func5
    (ChangeSpec.witness6 (enc := enc) (C := Try.checked) false ⟨#[], #[.slice none 0 0, .slice none 0 0], []⟩ 8 (by kernel_rfl) (by kernel_rfl) (by kernel_rfl) (by kernel_rfl)) ?_
  intro W base args ds gs before hval0 hW hcnd _
  have hval : ∀ (j : Nat) t v, Try.f5.params[j]? = some t → args[j]? = some v → Value.okWide Try.prog W .any base t v := hval0
  have hW' := hW
  obtain ⟨p, q, hA0, hV, rfl, hfz, hnd⟩ := hW
  have hA : DataW.TrodAll enc Try.prog W 0 (fun _ => true) true Try.f5.params.toList args.toList ds p := hA0
  rw [Try.params5] at hA hval
  obtain ⟨v0, vs0, d0, ds0, p0, q0, hargs, rfl, rfl, h0, r0⟩ := trodAll_cons hA
  obtain ⟨v1, vs1, d1, ds1, p1, q1, rfl, rfl, rfl, h1, r1⟩ := trodAll_cons r0
  obtain ⟨rfl, rfl, rfl⟩ := trodAll_nil r1
  obtain rfl : args = #[v0, v1] := by cases args; simp_all
  obtain ⟨rfl, rfl⟩ := trodVars_none hV
  obtain ⟨a0, len0, cap0, rfl⟩ := okWide_slice Try.underlying22 (hval 0 22 v0 rfl rfl)
  have k0 := h0
  have lt0 : ∀ x ∈ p0, x.block < W.heap.size := by obtain ⟨m, hm⟩ := k0; exact DataW.trod_lt m _ _ _ hm
  obtain ⟨z0, w0⟩ : ∃ zs, IsRow .u8 W a0 len0 cap0 zs := by
    obtain ⟨fuel, hf⟩ := h0
    rcases open_ints Try.underlying22 Try.underlying5 (by kernel_rfl) hf with ⟨hcs, _⟩ | ⟨x, l, c, zs, hcs, _, hl, hm, hz, _, hcell, hwz⟩
    · simp [Value.cells] at hcs
      obtain ⟨rfl, rfl, rfl⟩ := hcs
      exact ⟨[], .inl ⟨rfl, rfl, rfl, rfl⟩⟩
    · simp [Value.cells] at hcs
      obtain ⟨rfl, rfl, rfl⟩ := hcs
      exact ⟨zs, .inr ⟨_, rfl, hl, hm, by simpa using hz, hcell, hwz⟩⟩
  obtain ⟨a1, len1, cap1, rfl⟩ := okWide_slice Try.underlying22 (hval 1 22 v1 rfl rfl)
  have k1 := h1
  have lt1 : ∀ x ∈ p1, x.block < W.heap.size := by obtain ⟨m, hm⟩ := k1; exact DataW.trod_lt m _ _ _ hm
  obtain ⟨z1, w1⟩ : ∃ zs, IsRow .u8 W a1 len1 cap1 zs := by
    obtain ⟨fuel, hf⟩ := h1
    rcases open_ints Try.underlying22 Try.underlying5 (by kernel_rfl) hf with ⟨hcs, _⟩ | ⟨x, l, c, zs, hcs, _, hl, hm, hz, _, hcell, hwz⟩
    · simp [Value.cells] at hcs
      obtain ⟨rfl, rfl, rfl⟩ := hcs
      exact ⟨[], .inl ⟨rfl, rfl, rfl, rfl⟩⟩
    · simp [Value.cells] at hcs
      obtain ⟨rfl, rfl, rfl⟩ := hcs
      exact ⟨zs, .inr ⟨_, rfl, hl, hm, by simpa using hz, hcell, hwz⟩⟩
  clear hA0 hval0
  refine (walk a0 len0 cap0 z0 a1 len1 cap1 z1 W w0 w1).mono fun e W' ⟨he, bel⟩ => ?_
  subst he
  exact ⟨_, rfl, _, _, _, [], _, [], hW', trodAll_mk1 (shut_bool Try.underlying4 _), (trodAll_cons_mk (Below.trod laidOut (by kernel_rfl) (of_decide_eq_true (by kernel_rfl)) k0 bel lt0) (trodAll_cons_mk (Below.trod laidOut (by kernel_rfl) (of_decide_eq_true (by kernel_rfl)) k1 bel lt1) trodAll_mk0)), rfl, bel.frame _, fun h => by cases h⟩

theorem over : Rows.fnEncodeBase58KeepsOrderRow.holds Try.pinned (OpenSpec.ofChange Rows.fnEncodeBase58KeepsOrderSpec) :=
  OpenClaim.holds_of_wide 5 Try.f5 rfl rfl rfl rfl rfl rfl rfl ⟨rfl, rfl, rfl, rfl, rfl⟩ rfl rfl rfl rfl rfl (by kernel_rfl) Try.func5 (by kernel_rfl)
    (of_decide_eq_true (by kernel_rfl)) (by unfold Func.isWrapper; first | (rw [if_pos (by decide +kernel)]; kernel_rfl) | (rw [if_neg (by decide +kernel)]; exact ⟨rfl, rfl⟩))
    (fun os started H enc _ => lifted os started H enc)

/-- ████ THE STATEMENT ████ -/
theorem proved : Rows.FnEncodeBase58KeepsOrderSaid := over
end Go.Proofs.Qxb6601650a.fnEncodeBase58KeepsOrder
