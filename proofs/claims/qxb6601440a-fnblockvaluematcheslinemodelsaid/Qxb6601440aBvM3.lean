/-
  bvModel: its walk.
-/
import Derived.Test.Qxb6601440aBvM2
namespace Go.Proofs.Qxb6601440a.Bv
open Go.RowKit
set_option linter.unusedVariables false

set_option maxHeartbeats 2000000 in
theorem model_pre (a a2 : Option Addr) (n c1 c2 : Nat) (A : Nat → Option Addr) (L C : Nat → Nat) (z : Nat → Nat → Int) (E : Nat → Bool) (f : Bool) (ch l : Int) (body : List Int) (w : World) (hn : n ≤ 65536)
    (ht : TX w a n A L C z) (hf : FL w a2 n E) (hw : wellFormed n n L E) (hsum : sumL L n ≤ 1048576) (hl : lastC E n = l)
    (hbody : body = if f = true then ed (marks E L z (l + 1).toNat) 0 (lit E L z (l + 1).toNat) else lit E L z (l + 1).toNat) :
    Calls Try.prog 16 #[.slice a n c1, .slice a2 n c2, .bool f, .int .u8 ch] w fun e w' => StrP w (body ++ List.replicate (tcount ch l n) 10) e w' := by
  have hlb := lastC_bd E n
  rw [hl] at hlb
  have hll := lit_len E L z (l + 1).toNat
  have hsm := sumL_mono L (show (l + 1).toNat ≤ n by omega)
  have hbl : body.length ≤ 2000000 := by
    rw [hbody]
    split
    · have := ed_le (marks E L z (l + 1).toNat) (lit E L z (l + 1).toNat) 0; omega
    · omega
  have HT := hide ht
  have HF := hide hf
  have HW := hide hw
  have HSUM := hide hsum
  have HL := hide hl
  have HBO := hide hbody
  clear ht hf hw hsum hl hbody hll hsm
  go_enter Try.func16, Try.ntmps16
  go_wp2_with fail
  refine (last_any a2 n c2 E w hn (unhide HF)).mono ?_
  rintro e w0 ⟨rfl, hw0⟩
  subst w0
  rw [unhide HL]
  go_wp2_with fail
  refine (literal_any a a2 n c1 c2 A L C z E l w hn (unhide HT) (unhide HF) (unhide HW) (unhide HSUM) hlb.1 hlb.2).mono ?_
  rintro e w1 ⟨v1, rfl, hown1, hst1⟩
  have HB1 := hide hst1.1
  have hb1 : w.heap.size ≤ w1.heap.size := hst1.1.size
  clear hst1
  cases f
  · have ho : Own w1 w.heap.size v1 body := by rw [unhide HBO]; exact hown1
    have HO1 := hide ho
    clear hown1 ho
    by_cases h45 : ch = 45
    · subst h45
      have hcv := conv_own (unhide HO1)
      have HT0 := hide (show tcount 45 l n = 0 by unfold tcount; rw [if_pos rfl])
      go_wp2
      go_ret
      exact ⟨by rw [unhide HT0, List.replicate_zero, List.append_nil]; rfl, unhide HB1⟩
    · by_cases hc0 : ch = 0
      · subst hc0
        clear h45
        by_cases hneg : l < 0
        · have hcv := conv_own (unhide HO1)
          have HT0 := hide (show tcount 0 l n = 0 by unfold tcount; rw [if_neg (by omega), if_pos rfl, if_pos hneg])
          go_wp2
          go_ret
          exact ⟨by rw [unhide HT0, List.replicate_zero, List.append_nil]; rfl, unhide HB1⟩
        · have hpos : 0 ≤ l := by omega
          have HT0 := hide (show tcount 0 l n = 1 by unfold tcount; rw [if_neg (by omega), if_pos rfl, if_neg hneg])
          clear hneg
          go_wp2_with (at_builtin; refine wpList_app_one (by rfl) _ _ (by rfl) w.heap.size _ body 10 w1 (by rfl) (by rfl) HO1 hb1 (by omega) ?_)
          intro v' w9 R1 R2
          have hcv := conv_own (unhide R1)
          have R3 : Hid (Below w.heap.size w w9) := (unhide HB1).trans (unhide R2).1
          generalize hys : body ++ [(10 : Int)] = ys at hcv R1
          have HYS := hide hys
          clear hys
          go_wp2
          go_ret
          exact ⟨by rw [unhide HT0, List.replicate_one, unhide HYS]; rfl, unhide R3⟩
      · have hq1 : (ch == 45) = false := by simpa using h45
        have hq2 : (ch == 0) = false := by simpa using hc0
        by_cases hneg : l < 0
        · have HT0 := hide (show tcount ch l n = n by unfold tcount; rw [if_neg h45, if_neg hc0, if_pos hneg])
          clear h45 hc0
          go_wp2_with fail
          refine (breaks_any w.heap.size _ body n w1 hb1 (by omega) (by omega) (unhide HO1)).mono ?_
          rintro e w9 ⟨v9, rfl, hown9, hst9⟩
          have hcv := conv_own hown9
          have R3 : Hid (Below w.heap.size w w9) := (unhide HB1).trans hst9.1
          generalize hys : body ++ List.replicate n (10 : Int) = ys at hcv hown9
          have HYS := hide hys
          clear hys hown9 hst9
          go_wp2
          go_ret
          exact ⟨by rw [unhide HT0, unhide HYS]; rfl, unhide R3⟩
        · have HT0 := hide (show tcount ch l n = n - l.toNat by unfold tcount; rw [if_neg h45, if_neg hc0, if_neg hneg])
          have hpos : 0 ≤ l := by omega
          have HEQ := hide (show (n : Int) - l = ((n - l.toNat : Nat) : Int) by omega)
          clear h45 hc0 hneg
          go_wp2_with fail
          rw [unhide HEQ]
          refine (breaks_any w.heap.size _ body (n - l.toNat) w1 hb1 (by omega) (by omega) (unhide HO1)).mono ?_
          rintro e w9 ⟨v9, rfl, hown9, hst9⟩
          have hcv := conv_own hown9
          have R3 : Hid (Below w.heap.size w w9) := (unhide HB1).trans hst9.1
          generalize hys : body ++ List.replicate (n - l.toNat) (10 : Int) = ys at hcv hown9
          have HYS := hide hys
          clear hys hown9 hst9
          go_wp2
          go_ret
          exact ⟨by rw [unhide HT0, unhide HYS]; rfl, unhide R3⟩
  · obtain ⟨a0, c0, rfl, hlx⟩ := hown1.shape
    have HT1 := hide ((unhide HT).later (unhide HB1))
    have HF1 := hide ((unhide HF).later (unhide HB1))
    have HLX := hide hlx
    clear hlx hown1
    go_wp2_with fail
    refine (fold_edit a0 a a2 n c0 c1 c2 A L C z E l w1 hn (unhide HLX) (unhide HT1) (unhide HF1) (unhide HW) (unhide HSUM) hlb.1 hlb.2).mono ?_
    rintro e w2 ⟨v2, rfl, hown2, hst2⟩
    have ho : Own w2 w.heap.size v2 body := by rw [unhide HBO]; exact hown2.mono hb1
    have HO2 := hide ho
    have HB2 : Hid (Below w.heap.size w w2) := (unhide HB1).trans (hst2.1.mono hb1)
    have hb2 : w.heap.size ≤ w2.heap.size := (unhide HB2).size
    clear ho hown2 hst2
    by_cases h45 : ch = 45
    · subst h45
      have hcv := conv_own (unhide HO2)
      have HT0 := hide (show tcount 45 l n = 0 by unfold tcount; rw [if_pos rfl])
      go_wp2
      go_ret
      exact ⟨by rw [unhide HT0, List.replicate_zero, List.append_nil]; rfl, unhide HB2⟩
    · by_cases hc0 : ch = 0
      · subst hc0
        clear h45
        by_cases hneg : l < 0
        · have hcv := conv_own (unhide HO2)
          have HT0 := hide (show tcount 0 l n = 0 by unfold tcount; rw [if_neg (by omega), if_pos rfl, if_pos hneg])
          go_wp2
          go_ret
          exact ⟨by rw [unhide HT0, List.replicate_zero, List.append_nil]; rfl, unhide HB2⟩
        · have hpos : 0 ≤ l := by omega
          have HT0 := hide (show tcount 0 l n = 1 by unfold tcount; rw [if_neg (by omega), if_pos rfl, if_neg hneg])
          clear hneg
          go_wp2_with (at_builtin; refine wpList_app_one (by rfl) _ _ (by rfl) w.heap.size _ body 10 w2 (by rfl) (by rfl) HO2 hb2 (by omega) ?_)
          intro v' w9 R1 R2
          have hcv := conv_own (unhide R1)
          have R3 : Hid (Below w.heap.size w w9) := (unhide HB2).trans (unhide R2).1
          generalize hys : body ++ [(10 : Int)] = ys at hcv R1
          have HYS := hide hys
          clear hys
          go_wp2
          go_ret
          exact ⟨by rw [unhide HT0, List.replicate_one, unhide HYS]; rfl, unhide R3⟩
      · have hq1 : (ch == 45) = false := by simpa using h45
        have hq2 : (ch == 0) = false := by simpa using hc0
        by_cases hneg : l < 0
        · have HT0 := hide (show tcount ch l n = n by unfold tcount; rw [if_neg h45, if_neg hc0, if_pos hneg])
          clear h45 hc0
          go_wp2_with fail
          refine (breaks_any w.heap.size _ body n w2 hb2 (by omega) (by omega) (unhide HO2)).mono ?_
          rintro e w9 ⟨v9, rfl, hown9, hst9⟩
          have hcv := conv_own hown9
          have R3 : Hid (Below w.heap.size w w9) := (unhide HB2).trans hst9.1
          generalize hys : body ++ List.replicate n (10 : Int) = ys at hcv hown9
          have HYS := hide hys
          clear hys hown9 hst9
          go_wp2
          go_ret
          exact ⟨by rw [unhide HT0, unhide HYS]; rfl, unhide R3⟩
        · have HT0 := hide (show tcount ch l n = n - l.toNat by unfold tcount; rw [if_neg h45, if_neg hc0, if_neg hneg])
          have hpos : 0 ≤ l := by omega
          have HEQ := hide (show (n : Int) - l = ((n - l.toNat : Nat) : Int) by omega)
          clear h45 hc0 hneg
          go_wp2_with fail
          rw [unhide HEQ]
          refine (breaks_any w.heap.size _ body (n - l.toNat) w2 hb2 (by omega) (by omega) (unhide HO2)).mono ?_
          rintro e w9 ⟨v9, rfl, hown9, hst9⟩
          have hcv := conv_own hown9
          have R3 : Hid (Below w.heap.size w w9) := (unhide HB2).trans hst9.1
          generalize hys : body ++ List.replicate (n - l.toNat) (10 : Int) = ys at hcv hown9
          have HYS := hide hys
          clear hys hown9 hst9
          go_wp2
          go_ret
          exact ⟨by rw [unhide HT0, unhide HYS]; rfl, unhide R3⟩

theorem model_any (a a2 : Option Addr) (n c1 c2 : Nat) (A : Nat → Option Addr) (L C : Nat → Nat) (z : Nat → Nat → Int) (E : Nat → Bool) (f : Bool) (ch : Int) (w : World) (hn : n ≤ 65536)
    (ht : TX w a n A L C z) (hf : FL w a2 n E) (hw : wellFormed n n L E) (hsum : sumL L n ≤ 1048576) :
    Calls Try.prog 16 #[.slice a n c1, .slice a2 n c2, .bool f, .int .u8 ch] w fun e w' => StrP w (blockL f E L z n ch) e w' := by
  unfold blockL
  exact model_pre a a2 n c1 c2 A L C z E f ch (lastC E n) _ w hn ht hf hw hsum rfl (body_eq f E L z n)
end Go.Proofs.Qxb6601440a.Bv
