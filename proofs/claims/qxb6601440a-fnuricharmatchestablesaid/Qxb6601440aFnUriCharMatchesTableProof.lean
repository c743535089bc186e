/-
  The law FnUriCharMatchesTable, proved: the walk out of the contracts in Qxb6601440aUriWalk; the frame of the row is the one that the kit's tool wrote for this function.
-/
import Derived.Test.Qxb6601440aRows
import Derived.WalkKit
import Derived.ProofKit
import Derived.OpenShut
import Derived.ShutString
import Derived.ChangeOld
import Derived.Below
import Derived.Test.Qxb6601440aUriWalk
namespace Go.Proofs.Qxb6601440a.fnUriCharMatchesTable
open Go.ChangeShapes Go.WideShapes Go.ChangeAt Go.RowKit
open Go.ChangeMaps (open_string shut_string)
set_option linter.unusedVariables false

theorem own : ownKnob Try.prog.godebug = none := by kernel_rfl
theorem laidOut : laidOutB Try.prog = true := by kernel_rfl

/-- WHAT THE WALK IS TOLD OF A SLICE OF INTEGERS THAT CAME IN: it is nil; or it leads to a row of 'cap' cells, the numbers 'zs' (the first 'len' are its elements, the rest its spare room), each fitting its kind. -/
def IsRow (k : IntKind) (w : World) (a : Option Addr) (len cap : Nat) (zs : List Int) : Prop :=
  (a = none ∧ len = 0 ∧ cap = 0 ∧ zs = []) ∨
  ∃ x, a = some x ∧ len ≤ cap ∧ cap ≤ maxLen ∧ zs.length = cap ∧ (∀ i, i < zs.length → w.cell? (x.add i) = some (.int k (zs.getD i 0))) ∧ ∀ n ∈ zs, (Lit.int k n).wf = true

/-! ### STEP 1: THE WALK: the Go text returns true, AND WRITES NOTHING THAT WAS THERE: 'Below w.heap.size w w'' (Derived/Below.lean: '.refl', '.alloc', '.drew', '.setCell' at a new block, '.trans'). Open each 'IsRow' by 'rcases' AHEAD of 'go_enter'; part every test ahead of the walk. -/
/-- The three shapes of the argument. -/
theorem row_cases {w : World} {a : Option Addr} {len cap : Nat} {zs : List Int} (h : IsRow .u8 w a len cap zs) :
    (len ≤ maxLen) ∧ ((a = none ∧ len = 0 ∧ cap = 0) ∨ (∃ x, a = some x ∧ len = 0) ∨
      ∃ b off, a = some ⟨b, off, none⟩ ∧ 0 < len ∧ (∀ j, j < len → w.cell? ⟨b, off + j, none⟩ = some (.int .u8 (zs.getD j 0))) ∧ ∀ j, j < len → 0 ≤ zs.getD j 0 ∧ zs.getD j 0 ≤ 255) := by
  rcases h with ⟨rfl, rfl, rfl, rfl⟩ | ⟨x, rfl, h1, h2, h3, h4, h5⟩
  · exact ⟨by unfold maxLen; omega, .inl ⟨rfl, rfl, rfl⟩⟩
  · refine ⟨by omega, .inr ?_⟩
    by_cases hl : len = 0
    · exact .inl ⟨x, rfl, hl⟩
    · obtain ⟨b, off, spot⟩ := x
      have hspot : spot = none := by simpa [Addr.add] using World.cell?_spot (h4 0 (by omega))
      subst hspot
      refine .inr ⟨b, off, rfl, by omega, fun j hj => by rw [← add_plain]; exact h4 j (by omega), fun j hj => ?_⟩
      have hm : zs.getD j 0 ∈ zs := by
        rw [List.getD_eq_getElem?_getD, List.getElem?_eq_getElem (show j < zs.length by omega)]
        exact List.getElem_mem _
      have := h5 _ hm
      have := bounds_u8 this
      omega

def Done (w : World) (e : Ending) (w' : World) : Prop := e = .returned (.bool true) ∧ Below w.heap.size w w'

theorem walk_long (a : Option Addr) (len cap : Nat) (i : Int) (w : World) (hm : len ≤ maxLen) (h : ¬ len ≤ 1048576) :
    Calls Try.prog 8 #[.slice a len cap, .int .i64 i] w fun e w' => e = .returned (.bool true) ∧ Below w.heap.size w w' := by
  have hd : decide (len ≤ 1048576) = false := decide_eq_false h
  go_enter Try.func8, Try.ntmps8
  go_wp2_with (go_at_call 27; refine (zzBytes_any _ _ _ _ _ hm).mono ?_; rintro e w1 ⟨rfl, rfl⟩)
  go_ret
  exact ⟨rfl, Below.refl _ _⟩

theorem walk_neg (a : Option Addr) (len cap : Nat) (i : Int) (w : World) (hm : len ≤ maxLen) (h : len ≤ 1048576) (hi : i < 0) :
    Calls Try.prog 8 #[.slice a len cap, .int .i64 i] w fun e w' => e = .returned (.bool true) ∧ Below w.heap.size w w' := by
  have hd : decide (len ≤ 1048576) = true := decide_eq_true h
  go_enter Try.func8, Try.ntmps8
  go_wp2_with (go_at_call 27; refine (zzBytes_any _ _ _ _ _ hm).mono ?_; rintro e w1 ⟨rfl, rfl⟩)
  go_ret
  exact ⟨rfl, Below.refl _ _⟩

theorem walk_nil (i : Int) (w : World) (hi : 0 ≤ i) :
    Calls Try.prog 8 #[.slice none 0 0, .int .i64 i] w fun e w' => e = .returned (.bool true) ∧ Below w.heap.size w w' := by
  have hm : 0 ≤ maxLen := Nat.zero_le _
  go_enter Try.func8, Try.ntmps8
  go_wp2_with (first | (go_at_call 27; refine (zzBytes_any _ _ _ _ _ hm).mono ?_; rintro e w1 ⟨rfl, rfl⟩) | (go_at_call 28; refine (clone_nil _).mono ?_; rintro e w1 ⟨rfl, rfl⟩) | (go_at_call 29; refine (zz_out _ _ _ _ _ (by omega) (by omega)).mono ?_; rintro e w1 ⟨rfl, rfl⟩))
  go_ret
  exact ⟨rfl, Below.refl _ _⟩

theorem walk_bare (x : Addr) (cap : Nat) (i : Int) (w : World) (hi : 0 ≤ i) :
    Calls Try.prog 8 #[.slice (some x) 0 cap, .int .i64 i] w fun e w' => e = .returned (.bool true) ∧ Below w.heap.size w w' := by
  have hm : 0 ≤ maxLen := Nat.zero_le _
  go_enter Try.func8, Try.ntmps8
  go_wp2_with (first | (go_at_call 27; refine (zzBytes_any _ _ _ _ _ hm).mono ?_; rintro e w1 ⟨rfl, rfl⟩) | (go_at_call 28; refine (bare_clone _ _ _).mono ?_; rintro e w1 ⟨rfl, hb⟩) | (go_at_call 29; refine (zz_out _ _ _ _ _ (by omega) (by omega)).mono ?_; rintro e w1 ⟨rfl, rfl⟩))
  go_ret
  exact ⟨rfl, by assumption⟩

section
variable (b off len cap : Nat) (z : Nat → Int) (w : World)

theorem walk_out (i : Int) (h : len ≤ 1048576) (hc : ∀ j, j < len → w.cell? ⟨b, off + j, none⟩ = some (.int .u8 (z j))) (h0 : 0 < len) (hi : (len : Int) ≤ i) :
    Calls Try.prog 8 #[.slice (some ⟨b, off, none⟩) len cap, .int .i64 i] w fun e w' => e = .returned (.bool true) ∧ Below w.heap.size w w' := by
  have hm : len ≤ maxLen := by unfold maxLen; omega
  have hd : decide (len ≤ 1048576) = true := decide_eq_true h
  have HC : Hid _ := hc
  clear hc
  go_enter Try.func8, Try.ntmps8
  go_wp2_with (first | (go_at_call 27; refine (zzBytes_any _ _ _ _ _ hm).mono ?_; rintro e w1 ⟨rfl, rfl⟩) | (go_at_call 28; refine (clone_some _ _ _ _ z _ h HC.out).mono ?_; rintro e w1 ⟨rfl, hr, hb⟩) | (go_at_call 29; refine (zz_out _ _ _ _ _ h hi).mono ?_; rintro e w1 ⟨rfl, rfl⟩))
  go_ret
  exact ⟨rfl, by assumption⟩

set_option maxHeartbeats 800000 in
theorem walk_in (i : Nat) (h : len ≤ 1048576) (hc : ∀ j, j < len → w.cell? ⟨b, off + j, none⟩ = some (.int .u8 (z j))) (hz : ∀ j, j < len → 0 ≤ z j ∧ z j ≤ 255) (hi : i < len) :
    Calls Try.prog 8 #[.slice (some ⟨b, off, none⟩) len cap, .int .i64 i] w fun e w' => e = .returned (.bool true) ∧ Below w.heap.size w w' := by
  have hm : len ≤ maxLen := by unfold maxLen; omega
  have hd : decide (len ≤ 1048576) = true := decide_eq_true h
  have hz0 := hz i hi
  have HC : Hid _ := hc
  have HZ : Hid _ := hz
  clear hc hz
  go_enter Try.func8, Try.ntmps8
  go_wp2_with (go_at_call 27; refine (zzBytes_any _ _ _ _ _ hm).mono ?_; rintro e w1 ⟨rfl, hw⟩; subst w1)
  refine (clone_some _ _ _ _ z _ h HC.out).mono ?_
  rintro e w1 ⟨rfl, hr, hb⟩
  have hcell := fun j (hj : j < len) => hr.cell hj
  have HB : Hid _ := hb
  have h0 := hcell i hi
  obtain ⟨bi, hbi⟩ : ∃ bi, bi = z i := ⟨_, rfl⟩
  simp only [← hbi] at h0 hz0
  have HCL : Hid _ := hcell
  have HBI : Hid _ := hbi
  clear hr hb hcell hbi
  cases hw : wordB bi
  · by_cases h37 : bi = 37
    · subst h37
      have hp : (37 : Int).toNat = 37 := rfl
      by_cases hs : i + 2 < len
      · have h1 := HCL.out (i + 1) (by omega)
        have h2 := HCL.out (i + 2) (by omega)
        generalize z (i + 1) = b1 at h1
        generalize z (i + 2) = b2 at h2
        have hx1 := hex_dig b1
        have hx2 := hex_dig b2
        have HU : Hid _ := zz_of _ _ _ _ _ _ (uri_pct w.heap.size len len i b1 b2 w1 h hs h0 h1 h2)
        rw [hx1, hx2] at HU
        clear hx1 hx2
        by_cases hd1 : 0 ≤ digV b1
        · by_cases hd2 : 0 ≤ digV b2
          · rw [if_pos (by simp [hd1, hd2])] at HU
            go_wp2_with (first | (go_at_call 29; refine Calls.mono (Hid.out HU) ?_; rintro e w2 ⟨rfl, hw⟩; subst w2) | (go_at_call 30; refine (ifDigit_any _ _).mono ?_; rintro e w2 ⟨rfl, hw⟩; subst w2))
            go_ret
            exact ⟨rfl, HB.out⟩
          · rw [if_neg (by simp [hd1, hd2])] at HU
            go_wp2_with (first | (go_at_call 29; refine Calls.mono (Hid.out HU) ?_; rintro e w2 ⟨rfl, hw⟩; subst w2) | (go_at_call 30; refine (ifDigit_any _ _).mono ?_; rintro e w2 ⟨rfl, hw⟩; subst w2))
            go_ret
            exact ⟨rfl, HB.out⟩
        · rw [if_neg (by simp [hd1])] at HU
          go_wp2_with (first | (go_at_call 29; refine Calls.mono (Hid.out HU) ?_; rintro e w2 ⟨rfl, hw⟩; subst w2) | (go_at_call 30; refine (ifDigit_any _ _).mono ?_; rintro e w2 ⟨rfl, hw⟩; subst w2))
          go_ret
          exact ⟨rfl, HB.out⟩
      · have HU : Hid _ := zz_of _ _ _ _ _ _ (uri_pct_short w.heap.size len len i w1 h hi h0 (by omega))
        go_wp2_with (first | (go_at_call 29; refine Calls.mono (Hid.out HU) ?_; rintro e w2 ⟨rfl, hw⟩; subst w2) | (go_at_call 30; refine (ifDigit_any _ _).mono ?_; rintro e w2 ⟨rfl, hw⟩; subst w2))
        go_ret
        exact ⟨rfl, HB.out⟩
    · have h37' : (bi == 37) = false := by simp [h37]
      have HU : Hid _ := zz_of _ _ _ _ _ _ (uri_other w.heap.size len len i bi w1 h hi h0 hw h37')
      have hso := single_other bi hz0.1 hz0.2 hw
      rw [← hso] at HU
      clear hso h37
      cases hsg : decide (bi.toNat ∈ singles)
      · rw [hsg, if_neg (by simp)] at HU
        go_wp2_with (first | (go_at_call 29; refine Calls.mono (Hid.out HU) ?_; rintro e w2 ⟨rfl, hw⟩; subst w2) | (go_at_call 31; refine (ucSingle_any _ hz0.1 _).mono ?_; rintro e w2 ⟨rfl, hw⟩; subst w2))
        go_ret
        exact ⟨rfl, HB.out⟩
      · rw [hsg, if_pos rfl] at HU
        go_wp2_with (first | (go_at_call 29; refine Calls.mono (Hid.out HU) ?_; rintro e w2 ⟨rfl, hw⟩; subst w2) | (go_at_call 31; refine (ucSingle_any _ hz0.1 _).mono ?_; rintro e w2 ⟨rfl, hw⟩; subst w2))
        go_ret
        exact ⟨rfl, HB.out⟩
  · have h37' := word_not37 bi hw
    have HU : Hid _ := zz_of _ _ _ _ _ _ (uri_word w.heap.size len len i bi w1 h hi h0 hw)
    have hsg := single_word bi hz0.1 hz0.2 hw
    go_wp2_with (first | (go_at_call 29; refine Calls.mono (Hid.out HU) ?_; rintro e w2 ⟨rfl, hw⟩; subst w2) | (go_at_call 31; refine (ucSingle_any _ hz0.1 _).mono ?_; rintro e w2 ⟨rfl, hw⟩; subst w2))
    go_ret
    exact ⟨rfl, HB.out⟩
end

theorem walk (a0 : Option Addr) (len0 cap0 : Nat) (z0 : List Int) (a1 : Int) (w : World) (w0 : IsRow .u8 w a0 len0 cap0 z0) (w1 : (Lit.int .i64 a1).wf = true) :
    Calls Try.prog 8 #[.slice a0 len0 cap0, .int .i64 a1] w fun e w' => e = .returned (.bool true) ∧ Below w.heap.size w w' := by
  obtain ⟨hm, hcases⟩ := row_cases w0
  by_cases hl : len0 ≤ 1048576
  · by_cases hi : a1 < 0
    · exact walk_neg a0 len0 cap0 a1 w hm hl hi
    · rcases hcases with ⟨rfl, rfl, rfl⟩ | ⟨x, rfl, rfl⟩ | ⟨b, off, rfl, h0, hc, hz⟩
      · exact walk_nil a1 w (by omega)
      · exact walk_bare x cap0 a1 w (by omega)
      · by_cases hin : a1 < len0
        · obtain ⟨i, rfl⟩ := Int.eq_ofNat_of_zero_le (show 0 ≤ a1 by omega)
          exact walk_in b off len0 cap0 (fun j => z0.getD j 0) w i hl hc hz (by omega)
        · exact walk_out b off len0 cap0 (fun j => z0.getD j 0) w a1 hl hc h0 (by omega)
  · exact walk_long a0 len0 cap0 a1 w hm hl

/-! ### THE ROW's STEP: WRITTEN OUT: LEAVE IT -/
set_option maxRecDepth 100000 in
theorem lifted (os : Os) (started : os.Started) (H : Type) (enc : TypeId × Value → H) :
    ReturnsInHanded {} Try.checked os 8 .any (Rows.fnUriCharMatchesTableSpec.pre6 enc Try.prog Try.f8 Rows.fnUriCharMatchesTableRow.domain false) (Rows.fnUriCharMatchesTableSpec.post enc Try.prog Try.f8 false true false false) := by
  refine returnsInHanded_of_change (C := Try.checked) own started (by kernel_rfl) Try.func8
    (ChangeSpec.witness6 (enc := enc) (C := Try.checked) false ⟨#[], #[.slice none 0 0, .int .i64 0], []⟩ 8 (by kernel_rfl) (by kernel_rfl) (by kernel_rfl) (by kernel_rfl)) ?_
  intro W base args ds gs before hval0 hW hcnd _
  have hval : ∀ (j : Nat) t v, Try.f8.params[j]? = some t → args[j]? = some v → Value.okWide Try.prog W .any base t v := hval0
  have hW' := hW
  obtain ⟨p, q, hA0, hV, rfl, hfz, hnd⟩ := hW
  have hA : DataW.TrodAll enc Try.prog W 0 (fun _ => true) true Try.f8.params.toList args.toList ds p := hA0
  rw [Try.params8] at hA hval
  obtain ⟨v0, vs0, d0, ds0, p0, q0, hargs, rfl, rfl, h0, r0⟩ := trodAll_cons hA
  obtain ⟨v1, vs1, d1, ds1, p1, q1, rfl, rfl, rfl, h1, r1⟩ := trodAll_cons r0
  obtain ⟨rfl, rfl, rfl⟩ := trodAll_nil r1
  obtain rfl : args = #[v0, v1] := by cases args; simp_all
  obtain ⟨rfl, rfl⟩ := trodVars_none hV
  obtain ⟨a0, len0, cap0, rfl⟩ := okWide_slice Try.underlying38 (hval 0 38 v0 rfl rfl)
  have k0 := h0
  have lt0 : ∀ x ∈ p0, x.block < W.heap.size := by obtain ⟨m, hm⟩ := k0; exact DataW.trod_lt m _ _ _ hm
  obtain ⟨z0, w0⟩ : ∃ zs, IsRow .u8 W a0 len0 cap0 zs := by
    obtain ⟨fuel, hf⟩ := h0
    rcases open_ints Try.underlying38 Try.underlying5 (by kernel_rfl) hf with ⟨hcs, _⟩ | ⟨x, l, c, zs, hcs, _, hl, hm, hz, _, hcell, hwz⟩
    · simp [Value.cells] at hcs
      obtain ⟨rfl, rfl, rfl⟩ := hcs
      exact ⟨[], .inl ⟨rfl, rfl, rfl, rfl⟩⟩
    · simp [Value.cells] at hcs
      obtain ⟨rfl, rfl, rfl⟩ := hcs
      exact ⟨zs, .inr ⟨_, rfl, hl, hm, by simpa using hz, hcell, hwz⟩⟩
  obtain ⟨a1, rfl, rfl, rfl, w1⟩ := open_int Try.underlying3 (hval 1 3 v1 rfl rfl) h1
  clear hA0 hval0
  refine (walk a0 len0 cap0 z0 a1 W w0 w1).mono fun e W' ⟨he, bel⟩ => ?_
  subst he
  exact ⟨_, rfl, _, _, _, [], _, [], hW', trodAll_mk1 (shut_bool Try.underlying4 _), (trodAll_cons_mk (Below.trod laidOut (by kernel_rfl) (of_decide_eq_true (by kernel_rfl)) k0 bel lt0) (trodAll_cons_mk (shut_int Try.underlying3 w1) trodAll_mk0)), rfl, bel.frame _, fun h => by cases h⟩

theorem over : Rows.fnUriCharMatchesTableRow.holds Try.pinned (OpenSpec.ofChange Rows.fnUriCharMatchesTableSpec) :=
  OpenClaim.holds_of_wide 8 Try.f8 rfl rfl rfl rfl rfl rfl rfl ⟨rfl, rfl, rfl, rfl, rfl⟩ rfl rfl rfl rfl rfl (by kernel_rfl) Try.func8 (by kernel_rfl)
    (of_decide_eq_true (by kernel_rfl)) (by unfold Func.isWrapper; first | (rw [if_pos (by decide +kernel)]; kernel_rfl) | (rw [if_neg (by decide +kernel)]; exact ⟨rfl, rfl⟩))
    (fun os started H enc _ => lifted os started H enc)

/-- ████ THE STATEMENT ████ -/
theorem proved : Rows.FnUriCharMatchesTableSaid := over
end Go.Proofs.Qxb6601440a.fnUriCharMatchesTable
