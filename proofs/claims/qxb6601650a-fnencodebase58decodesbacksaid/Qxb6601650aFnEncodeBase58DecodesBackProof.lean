/-
  The law FnEncodeBase58DecodesBack, proved: the walk out of the contracts of EncodeBase58 and of the decoder; the frame of the row is the one that the kit's tool wrote for this function.
-/
import Derived.Test.Qxb6601650aRows
import Derived.WalkKit
import Derived.ProofKit
import Derived.OpenShut
import Derived.ShutString
import Derived.ChangeOld
import Derived.Below
import Derived.Test.Qxb6601650aBack
import Derived.Test.Qxb6601650aOpen
import Derived.Deep.QuietTactic
import Derived.BigQuiet
namespace Go.Proofs.Qxb6601650a.fnEncodeBase58DecodesBack
open Go.ChangeShapes Go.WideShapes Go.ChangeAt Go.RowKit
open Go.ChangeMaps (open_string shut_string)
set_option linter.unusedVariables false

theorem own : ownKnob Try.prog.godebug = none := by kernel_rfl
theorem laidOut : laidOutB Try.prog = true := by kernel_rfl

/-- WHAT THE WALK IS TOLD OF A SLICE OF INTEGERS THAT CAME IN: it is nil; or it leads to a row of 'cap' cells, the numbers 'zs' (the first 'len' are its elements, the rest its spare room), each fitting its kind. -/
def IsRow (k : IntKind) (w : World) (a : Option Addr) (len cap : Nat) (zs : List Int) : Prop :=
  (a = none ∧ len = 0 ∧ cap = 0 ∧ zs = []) ∨
  ∃ x, a = some x ∧ len ≤ cap ∧ cap ≤ maxLen ∧ zs.length = cap ∧ (∀ i, i < zs.length → w.cell? (x.add i) = some (.int k (zs.getD i 0))) ∧ ∀ n ∈ zs, (Lit.int k n).wf = true

/-! ### STEP 1: THE WALK: the Go text returns true, AND WRITES NOTHING THAT WAS THERE: 'Below w.heap.size w w'' (Derived/Below.lean: '.refl', '.alloc', '.drew', '.setCell' at a new block, '.trans'). Open each 'IsRow' by 'rcases' AHEAD of 'go_enter'; part every test ahead of the walk. -/
set_option maxHeartbeats 2000000 in
set_option maxRecDepth 100000 in
theorem walk_z (a : Option Addr) (n cap : Nat) (z : Nat → Nat) (w : World) (hm : n ≤ maxLen) (ha : a = none → cap = 0) (hx : LX w a n z) (hz : ∀ i, i < n → z i < 256) :
    Calls Try.prog 4 #[.slice a n cap] w fun e w' => e = .returned (.bool true) ∧ Below w.heap.size w w' := by
  have HX := hide hx
  have HZ := hide hz
  have HA := hide ha
  clear hx hz ha
  by_cases h1 : n ≤ 1048576
  · have hd : decide (n ≤ 1048576) = true := decide_eq_true h1
    by_cases h2 : n ≤ 4096
    · go_enter Try.func4, Try.ntmps4
      go_wp2_with (go_at_call 10; refine (zz10_any _ _ _ _ hm).mono ?_; rintro e w1 ⟨rfl, hw⟩; subst w1)
      refine (clone_any a n cap z w h1 (unhide HA) (unhide HX)).mono ?_
      rintro e w1 ⟨a1, rfl, hx1, hb1⟩
      have HX1 := hide hx1
      have HB1 := hide hb1
      clear hx1 hb1
      go_wp2_with fail
      refine (enc_any a1 n z w1 h2 (unhide HX1) (unhide HZ)).mono ?_
      rintro e w2 ⟨zc, ds, henc, rfl, hb2⟩
      have HX2 := hide ((unhide HX1).later hb2)
      have HB2 : Hid (Below w.heap.size w w2) := (unhide HB1).trans (hb2.mono (unhide HB1).size)
      have HE := hide henc
      have hsz : (strOf (encL zc ds)).size = zc + ds.length := by rw [strOf_size, encL_len]
      have hup := henc.upper (unhide HZ)
      have hlo := henc.lower
      have HDEC : Hid (∀ w, Calls Try.prog 11 #[.string (strOf (encL zc ds))] w fun e w' => BackP w n z e w') := fun w => back_any henc h2 (unhide HZ) w
      clear hb2 henc
      obtain ⟨s, hs⟩ : ∃ s, strOf (encL zc ds) = s := ⟨_, rfl⟩
      rw [hs] at hsz HDEC ⊢
      clear hs
      have q1 : n ≤ s.size := by omega
      have q2 : s.size ≤ n * 138 / 100 + 1 := by omega
      clear hsz hup hlo HE
      go_wp2_with fail
      refine (unhide HDEC w2).mono ?_
      rintro e w3 ⟨g, rfl, hrow, hb3⟩
      have HROW := hide hrow
      have HX3 := hide ((unhide HX2).later hb3)
      have HB3 : Hid (Below w.heap.size w w3) := (unhide HB2).trans (hb3.mono (unhide HB2).size)
      clear hb3 hrow HDEC HX1 HX2 HB1 HB2
      go_wp2
      go_loopw [2, 6] (fun t2 iv wr => ∃ k : Nat, k ≤ n ∧ t2 = .bool false ∧ iv = .int .i64 k ∧ ∃ m, wr = w3.drewN m) (fun _ iv _ => n - (intOf iv).toNat)
      case atStart => exact ⟨0, by omega, rfl, rfl, 0, rfl⟩
      case round =>
        rename World => w4
        obtain ⟨k, hk, rfl, rfl, m, rfl⟩ := hrel
        by_cases hkn : k < n
        · obtain ⟨x, rfl⟩ := (unhide HX3).some_addr (by omega)
          have hc1 := unhide HROW k hkn
          have hc2 := (unhide HX3).2 x rfl k hkn
          have hkn' : (k : Int) < (n : Int) := by omega
          go_wp2_with fail
          go_quiet (fail)
          go_wp2
          go_roundw
          case rel => exact ⟨k + 1, by omega, rfl, by go_num, _, rfl⟩
          case measure => simp [intOf]; omega
        · go_wp2
          go_ret
          exact ⟨rfl, below_drewN (unhide HB3) _⟩
    · go_enter Try.func4, Try.ntmps4
      go_wp2_with (go_at_call 10; refine (zz10_any _ _ _ _ hm).mono ?_; rintro e w1 ⟨rfl, hw⟩; subst w1)
      go_ret
      exact ⟨rfl, Below.refl _ _⟩
  · have hd : decide (n ≤ 1048576) = false := decide_eq_false h1
    unfold maxLen at hm
    go_enter Try.func4, Try.ntmps4
    go_wp2_with (go_at_call 10; refine (zz10_any _ _ _ _ (by unfold maxLen; omega)).mono ?_; rintro e w1 ⟨rfl, hw⟩; subst w1)
    go_ret
    exact ⟨rfl, Below.refl _ _⟩

theorem walk (a0 : Option Addr) (len0 cap0 : Nat) (z0 : List Int) (w : World) (w0 : IsRow .u8 w a0 len0 cap0 z0) :
    Calls Try.prog 4 #[.slice a0 len0 cap0] w fun e w' => e = .returned (.bool true) ∧ Below w.heap.size w w' := by
  obtain ⟨h1, h2, z, h3, h4⟩ := row_view w0
  exact walk_z a0 len0 cap0 z w h1 h2 h3 h4

/-! ### THE ROW's STEP: WRITTEN OUT: LEAVE IT -/
set_option maxRecDepth 100000 in
theorem lifted (os : Os) (started : os.Started) (H : Type) (enc : TypeId × Value → H) :
    ReturnsInHanded {} Try.checked os 4 .any (Rows.fnEncodeBase58DecodesBackSpec.pre6 enc Try.prog Try.f4 Rows.fnEncodeBase58DecodesBackRow.domain false) (Rows.fnEncodeBase58DecodesBackSpec.post enc Try.prog Try.f4 false true false false) := by
  refine returnsInHanded_of_change (C := Try.checked) own started (by kernel_rfl) Try.func4
    (ChangeSpec.witness6 (enc := enc) (C := Try.checked) false ⟨#[], #[.slice none 0 0], []⟩ 8 (by kernel_rfl) (by kernel_rfl) (by kernel_rfl) (by kernel_rfl)) ?_
  intro W base args ds gs before hval0 hW hcnd _
  have hval : ∀ (j : Nat) t v, Try.f4.params[j]? = some t → args[j]? = some v → Value.okWide Try.prog W .any base t v := hval0
  have hW' := hW
  obtain ⟨p, q, hA0, hV, rfl, hfz, hnd⟩ := hW
  have hA : DataW.TrodAll enc Try.prog W 0 (fun _ => true) true Try.f4.params.toList args.toList ds p := hA0
  rw [Try.params4] at hA hval
  obtain ⟨v0, vs0, d0, ds0, p0, q0, hargs, rfl, rfl, h0, r0⟩ := trodAll_cons hA
  obtain ⟨rfl, rfl, rfl⟩ := trodAll_nil r0
  obtain rfl : args = #[v0] := by cases args; simp_all
  obtain ⟨rfl, rfl⟩ := trodVars_none hV
  obtain ⟨a0, len0, cap0, rfl⟩ := okWide_slice Try.underlying22 (hval 0 22 v0 rfl rfl)
  have k0 := h0
  have lt0 : ∀ x ∈ p0, x.block < W.heap.size := by obtain ⟨m, hm⟩ := k0; exact DataW.trod_lt m _ _ _ hm
  obtain ⟨z0, w0⟩ : ∃ zs, IsRow .u8 W a0 len0 cap0 zs := by
    obtain ⟨fuel, hf⟩ := h0
    rcases open_ints Try.underlying22 Try.underlying5 (by kernel_rfl) hf with ⟨hcs, _⟩ | ⟨x, l, c, zs, hcs, _, hl, hm, hz, _, hcell, hwz⟩
    · simp [Value.cells] at hcs
      obtain ⟨rfl, rfl, rfl⟩ := hcs
      exact ⟨[], .inl ⟨rfl, rfl, rfl, rfl⟩⟩
    · simp [Value.cells] at hcs
      obtain ⟨rfl, rfl, rfl⟩ := hcs
      exact ⟨zs, .inr ⟨_, rfl, hl, hm, by simpa using hz, hcell, hwz⟩⟩
  clear hA0 hval0
  refine (walk a0 len0 cap0 z0 W w0).mono fun e W' ⟨he, bel⟩ => ?_
  subst he
  exact ⟨_, rfl, _, _, _, [], _, [], hW', trodAll_mk1 (shut_bool Try.underlying4 _), (trodAll_cons_mk (Below.trod laidOut (by kernel_rfl) (of_decide_eq_true (by kernel_rfl)) k0 bel lt0) trodAll_mk0), rfl, bel.frame _, fun h => by cases h⟩

theorem over : Rows.fnEncodeBase58DecodesBackRow.holds Try.pinned (OpenSpec.ofChange Rows.fnEncodeBase58DecodesBackSpec) :=
  OpenClaim.holds_of_wide 4 Try.f4 rfl rfl rfl rfl rfl rfl rfl ⟨rfl, rfl, rfl, rfl, rfl⟩ rfl rfl rfl rfl rfl (by kernel_rfl) Try.func4 (by kernel_rfl)
    (of_decide_eq_true (by kernel_rfl)) (by unfold Func.isWrapper; first | (rw [if_pos (by decide +kernel)]; kernel_rfl) | (rw [if_neg (by decide +kernel)]; exact ⟨rfl, rfl⟩))
    (fun os started H enc _ => lifted os started H enc)

/-- ████ THE STATEMENT ████ -/
theorem proved : Rows.FnEncodeBase58DecodesBackSaid := over
end Go.Proofs.Qxb6601650a.fnEncodeBase58DecodesBack
