/-
  Contracts for the line model: bvLiteral, bvFoldEdit.
-/
import Derived.Test.Qxb6601440aBvG
import Derived.Test.Qxb6601440aBvM1
namespace Go.Proofs.Qxb6601440a.Bv
open Go.RowKit
set_option linter.unusedVariables false

theorem text_some {w : World} {a : Option Addr} {n : Nat} {A : Nat → Option Addr} {L C : Nat → Nat} {z : Nat → Nat → Int} {E : Nat → Bool} (ht : TX w a n A L C z) (hw : wellFormed n n L E) (i : Nat) (hi : i < n) (hE : E i = false) :
    0 < L i ∧ ∃ y, A i = some y ∧ ∀ q, q < L i → w.cell? (y.add q) = some (.int .u8 (z i q)) := by
  have hL := hw.2 i hi hE
  obtain ⟨h1, h2, h3⟩ := ht.2.2 i hi
  cases hA : A i with
  | none => have := (h2 hA).1; omega
  | some y => exact ⟨hL, y, rfl, h3 y hA⟩

theorem TX.some_addr {w : World} {a : Option Addr} {n : Nat} {A : Nat → Option Addr} {L C : Nat → Nat} {z : Nat → Nat → Int} (ht : TX w a n A L C z) (h : 0 < n) : ∃ x, a = some x := by
  cases a with
  | none => have := ht.1 rfl; omega
  | some x => exact ⟨x, rfl⟩
theorem FL.some_addr {w : World} {a : Option Addr} {n : Nat} {E : Nat → Bool} (ht : FL w a n E) (h : 0 < n) : ∃ x, a = some x := by
  cases a with
  | none => have := ht.1 rfl; omega
  | some x => exact ⟨x, rfl⟩

set_option maxHeartbeats 1000000 in
theorem literal_any (a a2 : Option Addr) (n c1 c2 : Nat) (A : Nat → Option Addr) (L C : Nat → Nat) (z : Nat → Nat → Int) (E : Nat → Bool) (l : Int) (w : World) (hn : n ≤ 65536)
    (ht : TX w a n A L C z) (hf : FL w a2 n E) (hw : wellFormed n n L E) (hsum : sumL L n ≤ 1048576) (hl1 : -1 ≤ l) (hl2 : l < n) :
    Calls Try.prog 34 #[.slice a n c1, .slice a2 n c2, .int .i64 l] w fun e w' => AppP w.heap.size w (lit E L z (l + 1).toNat) e w' := by
  have HT := hide ht
  have HF := hide hf
  have HW := hide hw
  have HSUM := hide hsum
  clear ht hf hw hsum
  go_enter Try.func34, Try.ntmps34
  go_wp2
  go_loopw [7, 8] (fun v i wr => ∃ k : Nat, (k : Int) ≤ l + 1 ∧ i = .int .i64 k ∧ Own wr w.heap.size v (lit E L z k) ∧ St w.heap.size w wr) (fun _ i _ => (l + 1 - intOf i).toNat)
  case atStart => exact ⟨0, by omega, rfl, World.ownsRow_nil _ _ _ _, St.refl _ _⟩
  case round =>
    obtain ⟨k, hk, rfl, hown, hst⟩ := hrel
    by_cases hlt : (k : Int) ≤ l
    · obtain ⟨x, rfl⟩ := (unhide HT).some_addr (by omega)
      obtain ⟨y, rfl⟩ := (unhide HF).some_addr (by omega)
      have hfc := cell_later hst.1 ((unhide HF).2 y rfl k (by omega))
      have hbr : w.heap.size ≤ wr.heap.size := hst.1.size
      have hll := lit_len E L z k
      have hsm := sumL_mono L (show k + 1 ≤ n by omega)
      rw [sumL_succ] at hsm
      have hs2 := unhide HSUM
      obtain ⟨ys, hys⟩ : ∃ ys, lit E L z k = ys := ⟨_, rfl⟩
      rw [hys] at hown hll
      have hyl : ys.length ≤ 9999998 := by omega
      have hLk : L k ≤ 1048576 := by omega
      have HYS := hide hys
      have HOW := hide hown
      have HST := hide hst
      clear hown hst hys hll hsm hs2
      cases hE : E k
      · have HL := hide (lit_line E L z k hE)
        obtain ⟨hLp, yt, hy, hcy⟩ := text_some (unhide HT) (unhide HW) k (by omega) hE
        have hxc := (unhide HT).2.1 x rfl k (by omega)
        rw [hy] at hxc
        have HXC := hide hxc
        have HCY := hide hcy
        rw [hE] at hfc
        have HFE : Hid (∀ w', Below w.heap.size w w' → w'.cell? (y.add k) = some (.bool false)) := fun w' hb => by
          have := cell_later hb ((unhide HF).2 y rfl k (by omega))
          rw [hE] at this
          exact this
        clear hE hy hxc hcy
        by_cases hk0 : 0 < k
        · have hfc1 : ∀ o, (wr.alloc o).cell? (y.add k) = some (.bool false) := fun o => cell_later ((Below.refl _ _).alloc (Nat.le_refl _) o) hfc
          go_wp2_with (at_builtin; refine wpList_app_one (by rfl) _ _ (by rfl) w.heap.size _ ys 10 wr (by rfl) (by rfl) HOW hbr (by omega) ?_)
          intro v' w3 R1 R2
          have HST3 := hide ((unhide HST).trans (unhide R2))
          have hfc3 := unhide HFE w3 (unhide HST3).1
          have hxc3 := cell_later (unhide HST3).1 (unhide HXC)
          have HCE : Hid (∀ q, q < L k → w3.cell? (yt.add q) = some (.int .u8 (z k q))) := fun q hq => cell_later (unhide HST3).1 (unhide HCY q hq)
          have hb3 : w.heap.size ≤ w3.heap.size := (unhide HST3).1.size
          have hyl3 : (ys ++ [10]).length ≤ 9999999 := by simp; omega
          generalize hy3 : ys ++ [(10 : Int)] = ys3 at R1 hyl3
          have HY3 := hide hy3
          clear hy3 hfc1 hfc
          go_wp2_with (at_builtin; refine wpList_app_text (by rfl) _ _ (by rfl) w.heap.size _ ys3 L z k _ yt w3 (by rfl) (by rfl) R1 hb3 hyl3 (by omega) HCE ?_)
          intro v4 w4 R3 R4
          have R5 := hide ((unhide HST3).trans (unhide R4))
          go_wp2
          go_roundw
          case rel => exact ⟨k + 1, by omega, by go_num, by rw [unhide HL, if_pos hk0, unhide HYS, unhide HY3]; exact unhide R3, unhide R5⟩
          case measure => simp [intOf]; omega
        · have hxc3 := cell_later (unhide HST).1 (unhide HXC)
          have HCE : Hid (∀ q, q < L k → wr.cell? (yt.add q) = some (.int .u8 (z k q))) := fun q hq => cell_later (unhide HST).1 (unhide HCY q hq)
          go_wp2_with (at_builtin; refine wpList_app_text (by rfl) _ _ (by rfl) w.heap.size _ ys L z k _ yt wr (by rfl) (by rfl) HOW hbr (by omega) (by omega) HCE ?_)
          intro v4 w4 R3 R4
          have R5 := hide ((unhide HST).trans (unhide R4))
          go_wp2
          go_roundw
          case rel => exact ⟨k + 1, by omega, by go_num, by rw [unhide HL, if_neg hk0, unhide HYS, List.append_nil]; exact unhide R3, unhide R5⟩
          case measure => simp [intOf]; omega
      · have HL := hide (lit_empty E L z k hE)
        rw [hE] at hfc
        have HFE : Hid (∀ w', Below w.heap.size w w' → w'.cell? (y.add k) = some (.bool true)) := fun w' hb => by
          have := cell_later hb ((unhide HF).2 y rfl k (by omega))
          rw [hE] at this
          exact this
        clear hE
        by_cases hk0 : 0 < k
        · have hfc1 : ∀ o, (wr.alloc o).cell? (y.add k) = some (.bool true) := fun o => cell_later ((Below.refl _ _).alloc (Nat.le_refl _) o) hfc
          go_wp2_with (at_builtin; refine wpList_app_one (by rfl) _ _ (by rfl) w.heap.size _ ys 10 wr (by rfl) (by rfl) HOW hbr (by omega) ?_)
          intro v' w3 R1 R2
          have HST3 := hide ((unhide HST).trans (unhide R2))
          have hfc3 := unhide HFE w3 (unhide HST3).1
          clear hfc1 hfc
          go_wp2
          go_roundw
          case rel => exact ⟨k + 1, by omega, by go_num, by rw [unhide HL, if_pos hk0, unhide HYS]; exact unhide R1, unhide HST3⟩
          case measure => simp [intOf]; omega
        · go_wp2
          go_roundw
          case rel => exact ⟨k + 1, by omega, by go_num, by rw [unhide HL, if_neg hk0, unhide HYS, List.append_nil]; exact unhide HOW, unhide HST⟩
          case measure => simp [intOf]; omega
    · have hkl : (l + 1).toNat = k := by omega
      have HKL := hide hkl
      clear hkl
      go_wp2
      go_ret
      exact ⟨_, rfl, by rw [unhide HKL]; exact hown, hst⟩

/-- A byte slice that reads as these numbers. -/
def LX (w : World) (a : Option Addr) (xs : List Int) : Prop := (a = none → xs.length = 0) ∧ ∀ x, a = some x → ∀ i, i < xs.length → w.cell? (x.add i) = some (.int .u8 (xs.getD i 0))

theorem LX.later {w w' : World} {a : Option Addr} {xs : List Int} (h : LX w a xs) (hb : Below w.heap.size w w') : LX w' a xs := ⟨h.1, fun x hx i hi => cell_later hb (h.2 x hx i hi)⟩

theorem Own.shape {w : World} {B : Nat} {v : Value} {xs : List Int} (h : Own w B v xs) : ∃ a c, v = .slice a xs.length c ∧ LX w a xs := by
  have hcells := fun g hg => World.ownsRow.cells h (g := g) hg
  obtain ⟨h1, h2⟩ := h
  rcases h2 with ⟨rfl, hn⟩ | ⟨g, cap, cur, rfl, hb, hgg, hle, hm, hcs, htake⟩
  · exact ⟨none, 0, by rw [hn], fun _ => hn, fun x hx => by cases hx⟩
  · refine ⟨some ⟨g, 0, none⟩, cap, rfl, fun hh => (by cases hh), fun x hx i hi => ?_⟩
    cases hx
    exact hcells g rfl i _ (by rw [List.getElem?_map, List.getElem?_eq_getElem hi, List.getD_eq_getElem?_getD, List.getElem?_eq_getElem hi]; rfl)

theorem lastC_content (E : Nat → Bool) (k : Nat) (h : 0 ≤ lastC E k) : E (lastC E k).toNat = false ∧ (lastC E k).toNat < k := by
  rcases lastC_cases E k with h1 | ⟨l, h1, h2, h3⟩
  · rw [lastC_none E k h1] at h; omega
  · rw [lastC_eq E k l h1 h2 h3, Int.toNat_natCast]
    exact ⟨h2, h1⟩

theorem marks_range (E : Nat → Bool) (L : Nat → Nat) (z : Nat → Nat → Int) (i k : Nat) : marks E L z i k = 0 ∨ marks E L z i k = 1 ∨ marks E L z i k = 2 := by
  induction i with
  | zero => exact .inl rfl
  | succ i ih =>
    unfold marks
    split
    · exact ih
    · split
      · dsimp only
        split
        · split
          · exact .inr (.inl rfl)
          · exact .inr (.inr rfl)
        · exact ih
      · exact ih

theorem lit_lt (E : Nat → Bool) (L : Nat → Nat) (z : Nat → Nat → Int) (p k : Nat) (hp : p < k) (hE : E k = false) (hL : 0 < L k) : (lit E L z (p + 1)).length < (lit E L z (k + 1)).length := by
  have h1 := lit_mono E L z (show p + 1 ≤ k by omega)
  rw [lit_line E L z k hE, List.length_append, List.length_append, text_length]
  omega

theorem marks_mark {E : Nat → Bool} {L : Nat → Nat} {z : Nat → Nat → Int} {k pr : Nat} (hE : E k = false) (hpr : lastC E k = (pr : Int)) (h1 : whiteB (z pr 0) = false) (h2 : whiteB (z k 0) = false) :
    marks E L z (k + 1) = fun q => if q = (lit E L z (pr + 1)).length then (if (k : Int) - pr - 1 = 0 then 1 else 2) else marks E L z k q := by
  rw [marks, if_neg (by simp [hE]), if_pos (by rw [hpr, Int.toNat_natCast]; exact ⟨by omega, h1, h2⟩), hpr, show ((pr : Int) + 1).toNat = pr + 1 by omega]
theorem marks_skip {E : Nat → Bool} {L : Nat → Nat} {z : Nat → Nat → Int} {k : Nat} (hE : E k = false) (h : ¬ (0 ≤ lastC E k ∧ whiteB (z (lastC E k).toNat 0) = false ∧ whiteB (z k 0) = false)) :
    marks E L z (k + 1) = marks E L z k := by
  rw [marks, if_neg (by simp [hE]), if_neg h]

theorem St.of_below {w w' : World} (h : Below w.heap.size w w') : St w.heap.size w w' := ⟨h, fun k c t m hk ht => h.block k (Array.getElem?_eq_some_iff.1 hk).1⟩
theorem Own.mono {w : World} {B B' : Nat} {v : Value} {xs : List Int} (h : Own w B v xs) (hB : B' ≤ B) : Own w B' v xs := by
  obtain ⟨h1, h2⟩ := h
  refine ⟨h1, ?_⟩
  rcases h2 with h2 | ⟨g, cap, cur, hv, hb, rest⟩
  · exact .inl h2
  · exact .inr ⟨g, cap, cur, hv, Nat.le_trans hB hb, rest⟩

theorem ed_step (m : Nat → Int) (xs : List Int) (q : Nat) (hq : q < xs.length) :
    ed m 0 (xs.take (q + 1)) = ed m 0 (xs.take q) ++ (if m q = 0 then [xs.getD q 0] else if m q = 1 then [32] else []) := by
  have e : xs.take (q + 1) = xs.take q ++ [xs.getD q 0] := by
    rw [List.take_succ_eq_append_getElem hq, List.getD_eq_getElem?_getD, List.getElem?_eq_getElem hq]
    rfl
  rw [e, ed_append, List.length_take, Nat.min_eq_left (by omega), Nat.zero_add]
  congr 1
  simp [ed]

theorem ed_le (m : Nat → Int) (xs : List Int) : ∀ o, (ed m o xs).length ≤ xs.length := by
  induction xs with
  | nil => intro o; simp [ed]
  | cons x xs ih =>
    intro o
    have := ih (o + 1)
    simp only [ed, List.length_append, List.length_cons]
    have h1 : (if m o = 0 then [x] else if m o = 1 then [(32 : Int)] else []).length ≤ 1 := by
      split
      · simp
      · split <;> simp
    omega

/-- The first loop of bvFoldEdit, k lines done. -/
def FR (w wr : World) (len k : Nat) (E : Nat → Bool) (L : Nat → Nat) (z : Nat → Nat → Int) : Prop :=
  wr.rowIs w.heap.size 5 len (fun q => .int .u8 (marks E L z k q)) ∧ Below w.heap.size w wr

theorem FR.mark {w wr : World} {len k pr : Nat} {E : Nat → Bool} {L : Nat → Nat} {z : Nat → Nat → Int} (h : FR w wr len k E L z) (hE : E k = false) (hpr : lastC E k = (pr : Int)) (h1 : whiteB (z pr 0) = false) (h2 : whiteB (z k 0) = false) (u : Int)
    (hu : u = if (k : Int) - pr - 1 = 0 then 1 else 2) : FR w (wr.setCell ⟨w.heap.size, (lit E L z (pr + 1)).length, none⟩ (.int .u8 u)) len (k + 1) E L z := by
  refine ⟨(h.1.set _ _).congr fun j hj => ?_, h.2.setCell (Nat.le_refl _) _⟩
  rw [marks_mark hE hpr h1 h2]
  dsimp only
  split
  · rw [hu]
  · rfl
theorem FR.skip {w wr : World} {len k : Nat} {E : Nat → Bool} {L : Nat → Nat} {z : Nat → Nat → Int} (h : FR w wr len k E L z) (hE : E k = false)
    (hn : ¬ (0 ≤ lastC E k ∧ whiteB (z (lastC E k).toNat 0) = false ∧ whiteB (z k 0) = false)) : FR w wr len (k + 1) E L z := by
  unfold FR
  rw [marks_skip hE hn]
  exact h

set_option maxHeartbeats 2000000 in
theorem fold_edit (a0 a a2 : Option Addr) (n c0 c1 c2 : Nat) (A : Nat → Option Addr) (L C : Nat → Nat) (z : Nat → Nat → Int) (E : Nat → Bool) (l : Int) (w : World) (hn : n ≤ 65536)
    (hx : LX w a0 (lit E L z (l + 1).toNat)) (ht : TX w a n A L C z) (hf : FL w a2 n E) (hw : wellFormed n n L E) (hsum : sumL L n ≤ 1048576) (hl1 : -1 ≤ l) (hl2 : l < n) :
    Calls Try.prog 35 #[.slice a0 (lit E L z (l + 1).toNat).length c0, .slice a n c1, .slice a2 n c2, .int .i64 l] w fun e w' => AppP w.heap.size w (ed (marks E L z (l + 1).toNat) 0 (lit E L z (l + 1).toNat)) e w' := by
  obtain ⟨xs, hxs⟩ : ∃ xs, lit E L z (l + 1).toNat = xs := ⟨_, rfl⟩
  have hlen := lit_len E L z (l + 1).toNat
  have hsm := sumL_mono L (show (l + 1).toNat ≤ n by omega)
  rw [hxs] at hx hlen ⊢
  obtain ⟨len, hln⟩ : ∃ len, xs.length = len := ⟨_, rfl⟩
  rw [hln] at hlen ⊢
  have hlen2 : len ≤ 2000000 := by omega
  have hmk := run_make_row' (P := Try.prog) 38 5 (.int .u8 0) 1 Try.underlying38 info5 rfl .i64 .i64 len (by omega) (by omega)
  have HSTART : Hid (FR w (w.alloc (.cells (madeCells #[.int .u8 0] len) 5)) len 0 E L z) := ⟨(World.rowIs_made w (.int .u8 0) len 5).congr (fun i hi => rfl), (Below.refl _ _).alloc (Nat.le_refl _) _⟩
  have HX := hide hx
  have HXS := hide hxs
  have HLN := hide hln
  have HT := hide ht
  have HF := hide hf
  have HW := hide hw
  have HSUM := hide hsum
  have HLB : Hid (∀ j : Nat, (j : Int) ≤ l + 1 → (lit E L z j).length ≤ len) := fun j hj => by
    rw [← hln, ← hxs]; exact lit_mono E L z (by omega)
  clear hx hxs hln ht hf hw hsum hlen hsm
  go_enter Try.func35, Try.ntmps35
  go_wp2
  clear hmk
  go_loopw [10, 11, 12, 13] (fun ps pv en i wr => ∃ k : Nat, (k : Int) ≤ l + 1 ∧ i = .int .i64 k ∧ ps = .int .i64 (lit E L z k).length ∧ pv = .int .i64 (lastC E k) ∧ en = .int .i64 (lit E L z (lastC E k + 1).toNat).length ∧ FR w wr len k E L z) (fun _ _ _ i _ => (l + 1 - intOf i).toNat)
  case atStart => exact ⟨0, by omega, rfl, rfl, rfl, rfl, unhide HSTART⟩
  case round =>
    rename World => w1
    obtain ⟨k, hk, rfl, rfl, rfl, rfl, hfr⟩ := hrel
    clear HSTART
    by_cases hlt : (k : Int) ≤ l
    · obtain ⟨x, rfl⟩ := (unhide HT).some_addr (by omega)
      obtain ⟨y, rfl⟩ := (unhide HF).some_addr (by omega)
      have hfc := cell_later hfr.2 ((unhide HF).2 y rfl k (by omega))
      have hp1 := unhide HLB k (by omega)
      have hp2 := unhide HLB (k + 1) (by omega)
      have hlcb := lastC_bd E k
      have hsm2 := sumL_mono L (show k + 1 ≤ n by omega)
      rw [sumL_succ] at hsm2
      have hLk : L k ≤ 1048576 := by have := unhide HSUM; omega
      clear hsm2
      cases hE : E k
      · have HLC := hide (lastC_line E k hE)
        have HLL : Hid ((lit E L z (k + 1)).length = (lit E L z k).length + (if 0 < k then 1 else 0) + L k) := by
          show (lit E L z (k + 1)).length = _
          rw [lit_line E L z k hE, List.length_append, List.length_append, text_length]
          split <;> rfl
        have HE := hide hE
        obtain ⟨hLp, yt, hy, hcy⟩ := text_some (unhide HT) (unhide HW) k (by omega) hE
        have hxc := cell_later hfr.2 ((unhide HT).2.1 x rfl k (by omega))
        rw [hy] at hxc
        have hc0 : w1.cell? yt = some (.int .u8 (z k 0)) := by
          have := cell_later hfr.2 (hcy 0 hLp)
          have e0 : yt.add 0 = yt := by unfold Addr.add; split <;> simp_all
          rw [e0] at this
          exact this
        have hlp : (0 : Int) < (L k : Int) := by omega
        rw [hE] at hfc
        clear hy hcy hE
        by_cases hp : 0 ≤ lastC E k
        · obtain ⟨hEp, hpk⟩ := lastC_content E k hp
          obtain ⟨pr, hpr⟩ : ∃ pr : Nat, lastC E k = pr := ⟨(lastC E k).toNat, by omega⟩
          rw [hpr, Int.toNat_natCast] at hEp hpk
          rw [hpr, show ((pr : Int) + 1).toNat = pr + 1 by omega]
          have hk0 : 0 < k := by omega
          obtain ⟨hLp2, yp, hyp, hcyp⟩ := text_some (unhide HT) (unhide HW) pr (by omega) hEp
          have hxcp := cell_later hfr.2 ((unhide HT).2.1 x rfl pr (by omega))
          rw [hyp] at hxcp
          have hcp0 : w1.cell? yp = some (.int .u8 (z pr 0)) := by
            have := cell_later hfr.2 (hcyp 0 hLp2)
            have e0 : yp.add 0 = yp := by unfold Addr.add; split <;> simp_all
            rw [e0] at this
            exact this
          have hlp2 : (0 : Int) < (L pr : Int) := by omega
          have hen := lit_lt E L z pr k hpk (unhide HE) hLp
          have HPR := hide hpr
          clear hyp hcyp hEp hpr hp hlcb
          cases hwp : whiteB (z pr 0)
          · cases hwk : whiteB (z k 0)
            · obtain ⟨v0, hv0⟩ : ∃ v, w1.cell? ⟨w.heap.size, (lit E L z (pr + 1)).length, none⟩ = some v := ⟨_, hfr.1.cell (by omega)⟩
              have hz0 := hfr.1.frozen (lit E L z (pr + 1)).length
              have heb : (lit E L z (pr + 1)).length < len := by omega
              have hxl : (x.add k).block < w.heap.size := World.block_lt_of_cell? _ _ ((unhide HT).2.1 x rfl k (by omega))
              have hxs : ∀ u, (w1.setCell ⟨w.heap.size, (lit E L z (pr + 1)).length, none⟩ u).cell? (x.add k) = some (.slice (some yt) (L k) (C k)) := fun u =>
                (World.cell?_setCell_other _ _ _ _ (fun e => by rw [← e] at hxl; simp at hxl)).trans hxc
              clear hxl
              by_cases hadj : (k : Int) - pr - 1 ≤ 0
              · have HFR := hide (hfr.mark (unhide HE) (unhide HPR) hwp hwk 1 (by rw [if_pos (by omega)]))
                clear hfr
                go_wp2_with (go_at_call 37; refine (bvWhite_any _ _).mono ?_; rintro e w2 ⟨rfl, hw2⟩; subst w2)
                go_roundw
                case rel => exact ⟨k + 1, by omega, by go_num, by rw [unhide HLL, if_pos hk0]; go_num, by rw [unhide HLC], by rw [unhide HLC, show ((k : Int) + 1).toNat = k + 1 by omega, unhide HLL, if_pos hk0]; go_num, unhide HFR⟩
                case measure => simp [intOf]; omega
              · have HFR := hide (hfr.mark (unhide HE) (unhide HPR) hwp hwk 2 (by rw [if_neg (by omega)]))
                have hadj2 : 0 < (k : Int) - pr - 1 := by omega
                clear hfr hadj
                go_wp2_with (go_at_call 37; refine (bvWhite_any _ _).mono ?_; rintro e w2 ⟨rfl, hw2⟩; subst w2)
                go_roundw
                case rel => exact ⟨k + 1, by omega, by go_num, by rw [unhide HLL, if_pos hk0]; go_num, by rw [unhide HLC], by rw [unhide HLC, show ((k : Int) + 1).toNat = k + 1 by omega, unhide HLL, if_pos hk0]; go_num, unhide HFR⟩
                case measure => simp [intOf]; omega
            · have HFR := hide (hfr.skip (unhide HE) (by rw [hwk]; simp))
              clear hfr
              go_wp2_with (go_at_call 37; refine (bvWhite_any _ _).mono ?_; rintro e w2 ⟨rfl, hw2⟩; subst w2)
              go_roundw
              case rel => exact ⟨k + 1, by omega, by go_num, by rw [unhide HLL, if_pos hk0]; go_num, by rw [unhide HLC], by rw [unhide HLC, show ((k : Int) + 1).toNat = k + 1 by omega, unhide HLL, if_pos hk0]; go_num, unhide HFR⟩
              case measure => simp [intOf]; omega
          · have HFR := hide (hfr.skip (unhide HE) (by rw [unhide HPR, Int.toNat_natCast, hwp]; simp))
            clear hfr
            go_wp2_with (go_at_call 37; refine (bvWhite_any _ _).mono ?_; rintro e w2 ⟨rfl, hw2⟩; subst w2)
            go_roundw
            case rel => exact ⟨k + 1, by omega, by go_num, by rw [unhide HLL, if_pos hk0]; go_num, by rw [unhide HLC], by rw [unhide HLC, show ((k : Int) + 1).toNat = k + 1 by omega, unhide HLL, if_pos hk0]; go_num, unhide HFR⟩
            case measure => simp [intOf]; omega
        · have hpm : lastC E k = -1 := by omega
          have HFR := hide (hfr.skip (unhide HE) (fun h => hp h.1))
          rw [hpm]
          clear hpm hfr hp hlcb
          by_cases hk0 : 0 < k
          · go_wp2_with (go_at_call 37; refine (bvWhite_any _ _).mono ?_; rintro e w2 ⟨rfl, hw2⟩; subst w2)
            go_roundw
            case rel => exact ⟨k + 1, by omega, by go_num, by rw [unhide HLL, if_pos hk0]; go_num, by rw [unhide HLC], by rw [unhide HLC, show ((k : Int) + 1).toNat = k + 1 by omega, unhide HLL, if_pos hk0]; go_num, unhide HFR⟩
            case measure => simp [intOf]; omega
          · go_wp2_with (go_at_call 37; refine (bvWhite_any _ _).mono ?_; rintro e w2 ⟨rfl, hw2⟩; subst w2)
            go_roundw
            case rel => exact ⟨k + 1, by omega, by go_num, by rw [unhide HLL, if_neg hk0]; go_num, by rw [unhide HLC], by rw [unhide HLC, show ((k : Int) + 1).toNat = k + 1 by omega, unhide HLL, if_neg hk0]; go_num, unhide HFR⟩
            case measure => simp [intOf]; omega
      · have HLC := hide (lastC_empty E k hE)
        have HLL : Hid ((lit E L z (k + 1)).length = (lit E L z k).length + (if 0 < k then 1 else 0)) := by
          show (lit E L z (k + 1)).length = _
          rw [lit_empty E L z k hE, List.length_append]
          split <;> rfl
        have HFR : Hid (FR w w1 len (k + 1) E L z) := by
          have e : marks E L z (k + 1) = marks E L z k := by rw [marks, if_pos hE]
          show FR w w1 len (k + 1) E L z
          unfold FR
          rw [e]
          exact hfr
        rw [hE] at hfc
        clear hE hfr
        by_cases hk0 : 0 < k
        · go_wp2
          go_roundw
          case rel => exact ⟨k + 1, by omega, by go_num, by rw [unhide HLL, if_pos hk0]; go_num, by rw [unhide HLC], by rw [unhide HLC], unhide HFR⟩
          case measure => simp [intOf]; omega
        · go_wp2
          go_roundw
          case rel => exact ⟨k + 1, by omega, by go_num, by rw [unhide HLL, if_neg hk0]; go_num, by rw [unhide HLC], by rw [unhide HLC], unhide HFR⟩
          case measure => simp [intOf]; omega
    · have HKL := hide (show (l + 1).toNat = k by omega)
      obtain ⟨m, hm⟩ : ∃ m, marks E L z k = m := ⟨_, rfl⟩
      have hmr := fun q => marks_range E L z k q
      have hrow : w1.rowIs w.heap.size 5 len (fun q => .int .u8 (m q)) := by rw [← hm]; exact hfr.1
      rw [hm] at hmr
      have HM := hide hm
      have HROW := hide hrow
      have HMR := hide hmr
      have HBW := hide hfr.2
      have HX1 := hide ((unhide HX).later hfr.2)
      clear hfr hrow hmr hm
      go_wp2
      go_loopw [14, 15] (fun v i wr => ∃ q : Nat, q ≤ len ∧ i = .int .i64 q ∧ Own wr w1.heap.size v (ed m 0 (xs.take q)) ∧ Below w1.heap.size w1 wr) (fun _ i _ => len - (intOf i).toNat)
      case atStart => exact ⟨0, by omega, rfl, World.ownsRow_nil _ _ _ _, Below.refl _ _⟩
      case round =>
        rename World => wr
        obtain ⟨q, hq, rfl, hown, hb⟩ := hrel
        by_cases hql : q < len
        · obtain ⟨x0, rfl⟩ : ∃ x, a0 = some x := by
            cases a0 with
            | none => have := (unhide HX1).1 rfl; have := unhide HLN; omega
            | some x => exact ⟨x, rfl⟩
          have hc1 := cell_later hb ((unhide HROW).cell hql)
          have hc2 := cell_later hb ((unhide HX1).2 x0 rfl q (by rw [unhide HLN]; exact hql))
          have HES := hide (ed_step m xs q (by rw [unhide HLN]; exact hql))
          have hbr : w1.heap.size ≤ wr.heap.size := hb.size
          have hyl : (ed m 0 (xs.take q)).length ≤ 9999999 := by have := ed_le m (xs.take q) 0; rw [List.length_take] at this; omega
          generalize hys : ed m 0 (xs.take q) = ys at hown hyl
          have hmq := unhide HMR q
          obtain ⟨mq, hmq2⟩ : ∃ mq, m q = mq := ⟨_, rfl⟩
          obtain ⟨c, hcc⟩ : ∃ c, xs.getD q 0 = c := ⟨_, rfl⟩
          rw [hmq2] at hc1 hmq
          rw [hcc] at hc2
          have HES2 : Hid (ed m 0 (xs.take (q + 1)) = ys ++ (if mq = 0 then [c] else if mq = 1 then [32] else [])) := by
            have := unhide HES
            rw [hys, hmq2, hcc] at this
            exact this
          have HOW := hide hown
          have HB := hide hb
          clear hys hmq2 hcc HES hown hb
          rcases hmq with rfl | rfl | rfl
          · have hc3 : ∀ o, (wr.alloc o).cell? (x0.add q) = some (.int .u8 c) := fun o => cell_later ((Below.refl _ _).alloc (Nat.le_refl _) o) hc2
            go_wp2_with (at_builtin; refine wpList_app_one (by rfl) _ _ (by rfl) w1.heap.size _ ys c wr (by rfl) (by rfl) HOW hbr hyl ?_)
            intro v' w3 R1 R2
            have R3 : Hid (Below w1.heap.size w1 w3) := (unhide HB).trans (unhide R2).1
            clear hc3 hc1 hc2
            go_wp2
            go_roundw
            case rel => exact ⟨q + 1, by omega, by go_num, by have h := unhide HES2; simp at h; rw [h]; exact unhide R1, unhide R3⟩
            case measure => simp [intOf]; omega
          · go_wp2_with (at_builtin; refine wpList_app_one (by rfl) _ _ (by rfl) w1.heap.size _ ys 32 wr (by rfl) (by rfl) HOW hbr hyl ?_)
            intro v' w3 R1 R2
            have R3 : Hid (Below w1.heap.size w1 w3) := (unhide HB).trans (unhide R2).1
            clear hc1 hc2
            go_wp2
            go_roundw
            case rel => exact ⟨q + 1, by omega, by go_num, by have h := unhide HES2; simp at h; rw [h]; exact unhide R1, unhide R3⟩
            case measure => simp [intOf]; omega
          · go_wp2
            go_roundw
            case rel => exact ⟨q + 1, by omega, by go_num, by have h := unhide HES2; simp at h; rw [h]; exact unhide HOW, unhide HB⟩
            case measure => simp [intOf]; omega
        · have hqe : q = len := by omega
          have h1 := hown.mono (unhide HBW).size
          rw [hqe, List.take_of_length_le (by rw [unhide HLN]; exact Nat.le_refl _), ← unhide HM, ← unhide HKL] at h1
          have HO := hide h1
          clear h1
          have HBB : Hid (St w.heap.size w wr) := St.of_below ((unhide HBW).trans (hb.mono (unhide HBW).size))
          clear hown hb
          go_wp2
          go_ret
          exact ⟨_, rfl, unhide HO, unhide HBB⟩
end Go.Proofs.Qxb6601440a.Bv
