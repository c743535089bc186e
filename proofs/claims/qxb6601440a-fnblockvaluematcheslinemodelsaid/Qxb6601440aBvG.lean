/-
  blockValue: no content line; the two ways joined; ZZBlockValue.
-/
import Derived.Test.Qxb6601440aBvF
import Derived.RegionTactic
namespace Go.Proofs.Qxb6601440a.Bv
open Go.RowKit
set_option linter.unusedVariables false

def TN (ch : Int) (n : Nat) : Nat := if ch = 45 then 0 else if ch = 0 then 0 else n

set_option maxHeartbeats 1000000 in
theorem bv_none (lb n : Nat) (A : Nat → Option Addr) (L C : Nat → Nat) (z : Nat → Nat → Int) (E : Nat → Bool) (f : Bool) (ch : Int) (w : World) (hl : n ≤ 65536) (hln : LN w lb n A L C z E)
    (hEr : ∀ i, i < n → E i = true) :
    Calls Try.prog 33 #[.slice (some ⟨lb, 0, none⟩) n n, .bool f, .int .u8 ch] w fun e w' => StrP w (List.replicate (TN ch n) 10) e w' := by
  have HLN := hide hln
  have HEr := hide hEr
  clear hln hEr
  go_enter Try.func33, Try.ntmps33
  go_wp2
  go_loop [7] (fun i => ∃ k : Nat, k ≤ n ∧ i = .int .i64 ((k : Int) - 1)) (fun i => (intOf i + 1).toNat)
  case atStart => exact ⟨n, by omega, rfl⟩
  case round =>
    obtain ⟨k, hk, rfl⟩ := hrel
    cases k with
    | succ q =>
      rw [show (((q + 1 : Nat) : Int) - 1) = (q : Int) by omega]
      have hcq := (unhide HLN q (by omega)).2.1
      rw [unhide HEr q (by omega)] at hcq
      go_wp2
      go_round
      case rel => exact ⟨q, by omega, rfl⟩
      case measure => simp [intOf]
    | zero =>
      have hcv0 : ∀ wx : World, (convert 38 9 (.slice none 0 0)).run Try.prog wx = .ok (.string (strOf [])) wx := fun wx => conv_own (B := 0) (World.ownsRow_nil _ _ _ _)
      go_wp2
      refine wp_loop_rounds 1 ?_
      rw [rounds_succ]
      by_cases h45 : ch = 45
      · subst h45
        have HT : Hid (TN 45 n = 0) := by show TN 45 n = 0; unfold TN; rw [if_pos rfl]
        by_cases hn0 : n = 0
        · subst hn0
          go_wp2
          refine wp_loop_rounds 1 ?_
          rw [rounds_succ]
          go_wp2
          go_ret
          exact ⟨by rw [unhide HT]; rfl, Below.refl _ _⟩
        · have hnp : 0 < n := by omega
          go_wp2
          refine wp_loop_rounds 1 ?_
          rw [rounds_succ]
          go_wp2
          go_ret
          exact ⟨by rw [unhide HT]; rfl, Below.refl _ _⟩
      · by_cases hc0 : ch = 0
        · subst hc0
          clear h45
          have HT : Hid (TN 0 n = 0) := by show TN 0 n = 0; unfold TN; rw [if_neg (by omega), if_pos rfl]
          by_cases hn0 : n = 0
          · subst hn0
            go_wp2
            refine wp_loop_rounds 1 ?_
            rw [rounds_succ]
            go_wp2
            go_ret
            exact ⟨by rw [unhide HT]; rfl, Below.refl _ _⟩
          · have hnp : 0 < n := by omega
            go_wp2
            refine wp_loop_rounds 1 ?_
            rw [rounds_succ]
            go_wp2
            go_ret
            exact ⟨by rw [unhide HT]; rfl, Below.refl _ _⟩
        · have hq1 : (ch == 45) = false := by simpa using h45
          have hq2 : (ch == 0) = false := by simpa using hc0
          have HT : Hid (TN ch n = n) := by show TN ch n = n; unfold TN; rw [if_neg h45, if_neg hc0]
          clear h45 hc0 hcv0
          go_wp2
          go_loopw [8, 97] (fun v i wr => ∃ k : Nat, k ≤ n ∧ i = .int .i64 k ∧ Own wr w.heap.size v (List.replicate k 10) ∧ St w.heap.size w wr) (fun _ i _ => n - (intOf i).toNat)
          case atStart => exact ⟨0, by omega, rfl, World.ownsRow_nil _ _ _ _, St.refl _ _⟩
          case round =>
            rename World => wi
            obtain ⟨k, hk2, rfl, hown, hst⟩ := hrel
            by_cases hk3 : k < n
            · have hBr : w.heap.size ≤ wi.heap.size := hst.1.size
              generalize hys : List.replicate k (10 : Int) = ys at hown
              have hyl : ys.length ≤ 9999999 := by rw [← hys]; simp; omega
              have HYS := hide hys
              have HOW := hide hown
              have HST := hide hst
              clear hown hst hys
              go_wp2_with (at_builtin; refine wpList_app_one (by rfl) _ _ (by rfl) w.heap.size _ ys 10 wi (by rfl) (by rfl) HOW hBr hyl ?_)
              intro v' w3 R1 R2
              have R3 : Hid (Own w3 w.heap.size v' (List.replicate (k + 1) 10)) := by
                have := unhide R1
                rw [← unhide HYS, ← List.replicate_succ'] at this
                exact this
              have R4 : Hid (St w.heap.size w w3) := (unhide HST).trans (unhide R2)
              go_wp2
              go_roundw
              case rel => first | exact ⟨k + 1, by omega, by go_num, unhide R3, unhide R4⟩ | ((repeat apply Exists.intro); exact ⟨⟨k + 1, by omega, by go_num, unhide R3, unhide R4⟩, rfl⟩)
              case measure => simp [intOf]; omega
            · have hkk : k = n := by omega
              subst hkk
              generalize hys : List.replicate k (10 : Int) = ys at hown
              have HYS := hide hys
              have hcv := conv_own hown
              have HBB := hide hst.1
              clear hown hst hys
              go_wp2
              go_ret
              exact ⟨by rw [unhide HT, unhide HYS]; rfl, unhide HBB⟩

theorem blockV_any (lb n : Nat) (A : Nat → Option Addr) (L C : Nat → Nat) (z : Nat → Nat → Int) (E : Nat → Bool) (f : Bool) (ch : Int) (w : World) (hl : n ≤ 65536) (hln : LN w lb n A L C z E) (hsum : sumL L n ≤ 1048576) :
    Calls Try.prog 33 #[.slice (some ⟨lb, 0, none⟩) n n, .bool f, .int .u8 ch] w fun e w' => StrP w (blockL f E L z n ch) e w' := by
  unfold blockL
  rcases lastC_cases E n with h | ⟨l, h1, h2, h3⟩
  · rw [lastC_none E n h]
    have e1 : (bs f E L z ((-1 : Int) + 1).toNat).1 = [] := rfl
    have e2 : tcount ch (-1) n = TN ch n := by unfold tcount TN; simp
    rw [e1, e2, List.nil_append]
    exact bv_none lb n A L C z E f ch w hl hln h
  · rw [lastC_eq E n l h1 h2 h3]
    have e1 : ((l : Int) + 1).toNat = l + 1 := by omega
    have e2 : tcount ch (l : Int) n = TC ch l n := by
      unfold tcount TC
      rw [if_neg (show ¬ (l : Int) < 0 by omega), if_neg (show ¬ (l : Int) < 0 by omega), Int.toNat_natCast]
    rw [e1, e2]
    exact bv_some lb n l A L C z E f ch w hl hln hsum h1 h2 h3

theorem info46 : (Try.prog.info? 46).map (fun i => (i.zero, i.size, i.bytes)) = some (some (.agg #[.slice none 0 0, .bool false]), 2, 32) := by kernel_rfl

theorem make46 (n : Nat) (hn : n ≤ 65536) (w : World) : (Instr.makeSlice 44 (.int .i64 (n : Int)) (.int .i64 (n : Int))).run Try.prog w =
    .ok (.slice (some ⟨w.heap.size, 0, none⟩) n n) (w.alloc (.cells (madeCells #[.slice none 0 0, .bool false] (n * 2)) 46)) := by
  obtain ⟨i0, hi, hz0, hz1, hz2⟩ := info_parts info46
  have hr := run_make (P := Try.prog) w 44 46 i0 _ Try.underlying44 hi hz0 .i64 .i64 n n (by omega) (Int.le_refl _) (by rw [hz2]; omega) (by omega)
  simp only [Int.toNat_natCast, hz1] at hr
  exact hr

/-- The lines, k of them laid. -/
def LR (w wr : World) (n k : Nat) (A : Nat → Option Addr) (L C : Nat → Nat) (E : Nat → Bool) : Prop :=
  (∃ F : Nat → Value, wr.rowIs w.heap.size 46 (n * 2) F ∧ ∀ i, i < k → F (i * 2) = .slice (A i) (L i) (C i) ∧ F (i * 2 + 1) = .bool (E i)) ∧ Below w.heap.size w wr

theorem LR.start (w : World) (n : Nat) (A : Nat → Option Addr) (L C : Nat → Nat) (E : Nat → Bool) : LR w (w.alloc (.cells (madeCells #[.slice none 0 0, .bool false] (n * 2)) 46)) n 0 A L C E := by
  refine ⟨⟨fun j => (madeCells #[.slice none 0 0, .bool false] (n * 2)).getD j undef, ?_, fun i hi => by omega⟩, (Below.refl _ _).alloc (Nat.le_refl _) _⟩
  have hs := size_madeCells #[.slice none 0 0, .bool false] (n * 2)
  have := World.rowIs_alloc w (madeCells #[.slice none 0 0, .bool false] (n * 2)) 46 (fun j => (madeCells #[.slice none 0 0, .bool false] (n * 2)).getD j undef) (fun i hi => by simp [hi])
  rw [hs] at this
  exact this

theorem LR.step {w wr : World} {n k : Nat} {A : Nat → Option Addr} {L C : Nat → Nat} {E : Nat → Bool} (h : LR w wr n k A L C E) (hk : k < n) :
    LR w ((wr.setCell ⟨w.heap.size, k * 2, none⟩ (.slice (A k) (L k) (C k))).setCell ⟨w.heap.size, k * 2 + 1, none⟩ (.bool (E k))).drew n (k + 1) A L C E := by
  obtain ⟨⟨F, h1, h2⟩, h3⟩ := h
  refine ⟨⟨_, ((h1.set (k * 2) _).set (k * 2 + 1) _).drew, fun i hi => ?_⟩, ((h3.setCell (Nat.le_refl _) _).setCell (Nat.le_refl _) _).drew⟩
  by_cases e : i = k
  · subst e
    simp
  · have a1 : ¬ i * 2 = k * 2 + 1 := by omega
    have a2 : ¬ i * 2 = k * 2 := by omega
    have a3 : ¬ i * 2 + 1 = k * 2 + 1 := by omega
    have a4 : ¬ i * 2 + 1 = k * 2 := by omega
    simp only [a1, a2, a3, a4, if_false]
    exact h2 i (by omega)

theorem LR.at {w wr : World} {n k : Nat} {A : Nat → Option Addr} {L C : Nat → Nat} {E : Nat → Bool} (h : LR w wr n k A L C E) (hk : k < n) :
    (∃ v, wr.cell? ⟨w.heap.size, k * 2, none⟩ = some v) ∧ (∃ v, wr.cell? ⟨w.heap.size, k * 2 + 1, none⟩ = some v) ∧ wr.frozen? ⟨w.heap.size, k * 2, none⟩ = false ∧ wr.frozen? ⟨w.heap.size, k * 2 + 1, none⟩ = false := by
  obtain ⟨⟨F, h1, h2⟩, h3⟩ := h
  exact ⟨⟨_, h1.cell (by omega)⟩, ⟨_, h1.cell (by omega)⟩, h1.frozen _, h1.frozen _⟩

set_option maxHeartbeats 800000 in
theorem zzbv_any (a a2 : Option Addr) (n c1 c2 : Nat) (A : Nat → Option Addr) (L C : Nat → Nat) (z : Nat → Nat → Int) (E : Nat → Bool) (f : Bool) (ch : Int) (w : World) (hn : n ≤ 65536)
    (ht : TX w a n A L C z) (hf : FL w a2 n E) (hw : wellFormed n n L E) (hsum : sumL L n ≤ 1048576) :
    Calls Try.prog 15 #[.slice a n c1, .slice a2 n c2, .bool f, .int .u8 ch] w fun e w' => StrP w (blockL f E L z n ch) e w' := by
  have hmk := make46 n hn
  have HS := hide (LR.start w n A L C E)
  have HT := hide ht
  have HF := hide hf
  have HW := hide hw
  clear ht hf hw
  go_enter Try.func15, Try.ntmps15
  go_wp2
  clear hmk
  go_loopw [16] (fun i wr => ∃ k : Nat, k ≤ n ∧ i = .int .i64 k ∧ LR w wr n k A L C E) (fun i _ => n - (intOf i).toNat)
  case atStart => exact ⟨0, by omega, rfl, unhide HS⟩
  case round =>
    obtain ⟨k, hk, rfl, hlr⟩ := hrel
    clear HS
    by_cases hlt : k < n
    · obtain ⟨x, rfl⟩ : ∃ x, a = some x := by
        cases a with
        | none => exact absurd ((unhide HT).1 rfl) (by omega)
        | some x => exact ⟨x, rfl⟩
      obtain ⟨y, rfl⟩ : ∃ x, a2 = some x := by
        cases a2 with
        | none => exact absurd ((unhide HF).1 rfl) (by omega)
        | some x => exact ⟨x, rfl⟩
      have h1 := cell_later hlr.2 ((unhide HT).2.1 x rfl k hlt)
      have h2 := cell_later hlr.2 ((unhide HF).2 y rfl k hlt)
      have hg : ((k : Int) < (n : Int)) := by omega
      obtain ⟨⟨v3, h3⟩, ⟨v4, h4⟩, f3, f4⟩ := hlr.at hlt
      have HN := hide (hlr.step hlt)
      clear hlr
      go_wp2
      go_region
      go_wp2
      go_roundw
      case rel => exact ⟨k + 1, by omega, by go_num, unhide HN⟩
      case measure => simp [intOf]; omega
    · have hkn : k = n := by omega
      subst hkn
      have HL : Hid (LN wr w.heap.size k A L C z E) := by
        obtain ⟨⟨F, g1, g2⟩, g3⟩ := hlr
        intro i hi
        refine ⟨by rw [g1.cell (by omega), (g2 i hi).1], by rw [g1.cell (by omega), (g2 i hi).2], (unhide HW).2 i hi, fun hA => (((unhide HT).2.2 i hi).2.1 hA).1, fun y hy j hj => cell_later g3 (((unhide HT).2.2 i hi).2.2 y hy j hj)⟩
      have HB := hide hlr.2
      clear hlr
      go_wp2_with (go_at_call 33; refine (blockV_any _ _ A L C z E f ch _ hn (unhide HL) hsum).mono ?_; rintro e w2 ⟨rfl, hb2⟩)
      go_ret
      exact ⟨rfl, (unhide HB).trans (Below.mono (by assumption) (unhide HB).size)⟩
end Go.Proofs.Qxb6601440a.Bv
