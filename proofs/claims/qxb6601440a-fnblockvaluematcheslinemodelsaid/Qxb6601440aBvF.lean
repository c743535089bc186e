/-
  blockValue: the walk.
-/
import Derived.Test.Qxb6601440aBvE
import Derived.Deep.CutBlock
import Derived.Deep.DeepCutAuto
namespace Go.Proofs.Qxb6601440a.Bv
open Go.RowKit
set_option linter.unusedVariables false

theorem wpList_app_one {ops : Array Oper} {rest : List Oper} {o : Oper} {a : Act} {Q : Exit → Act → World → Prop} (hgd : o.guard = none) (s x : Operand)
    (ho : o.op = .call { callee := .builtin .append, args := #[s, x], argTypes := #[38, 38] }) (B : Nat) (v : Value) (xs : List Int) (c : Int) (wr : World)
    (hs : a.eval s = v) (hx : a.eval x = .slice (some ⟨wr.heap.size, 0, none⟩) 1 1) (hown : Hid (Own wr B v xs)) (hB : B ≤ wr.heap.size) (hlen : xs.length ≤ 9999999)
    (h : ∀ v' w', Hid (Own w' B v' (xs ++ [c])) → Hid (St B wr w') → wpList Try.prog ops Q rest (a.put o.dst v') w') :
    wpList Try.prog ops Q (o :: rest) a (wr.alloc (.cells #[.int .u8 c] 5)) := by
  obtain ⟨i0, hi, hz0, hz1, hz2⟩ := info_parts info5
  refine wpList_append_own _ hgd s x 38 ho B 5 i0 (.int .u8 0) 1 1 Try.underlying38 hi hz0 hz1 hz2 rfl (by decide) v _ _ hs (World.ownsRow.alloc (unhide hown) _) ⟨wr.heap.size, 0, none⟩ 1 1 [.int .u8 c] hx rfl (one_cell _) ?_ ?_ ?_ ?_ ?_
  · intro u hu; simp at hu; subst hu; rfl
  · simp [maxLen]; omega
  · omega
  · simp; omega
  · intro v' w' h1 h2 _
    exact h v' w' (Own.step (xs := xs) (ys := [c]) h1 rfl) (((St.refl B wr).alloc hB _).trans (St.grown (World.ownsRow.alloc (unhide hown) _) (by simp; omega) h2))

theorem wpList_app_text {ops : Array Oper} {rest : List Oper} {o : Oper} {a : Act} {Q : Exit → Act → World → Prop} (hgd : o.guard = none) (s x : Operand)
    (ho : o.op = .call { callee := .builtin .append, args := #[s, x], argTypes := #[38, 38] }) (B : Nat) (v : Value) (xs : List Int) (L : Nat → Nat) (z : Nat → Nat → Int) (i c : Nat) (y : Addr) (wr : World)
    (hs : a.eval s = v) (hx : a.eval x = .slice (some y) (L i) c) (hown : Hid (Own wr B v xs)) (hB : B ≤ wr.heap.size) (hlen : xs.length ≤ 9999999) (hL : L i ≤ 9999999)
    (hc : Hid (∀ q, q < L i → wr.cell? (y.add q) = some (.int .u8 (z i q))))
    (h : ∀ v' w', Hid (Own w' B v' (xs ++ text L z i)) → Hid (St B wr w') → wpList Try.prog ops Q rest (a.put o.dst v') w') :
    wpList Try.prog ops Q (o :: rest) a wr := by
  obtain ⟨i0, hi, hz0, hz1, hz2⟩ := info_parts info5
  refine wpList_append_own _ hgd s x 38 ho B 5 i0 (.int .u8 0) 1 1 Try.underlying38 hi hz0 hz1 hz2 rfl (by decide) v _ _ hs (unhide hown) y (L i) c ((text L z i).map (Value.int .u8)) hx (by rw [List.length_map, text_length, Nat.mul_one]) (text_cells (unhide hc)) (ints_oneCell _ _) ?_ ?_ hB ?_
  · simp [maxLen]; omega
  · omega
  · intro v' w' h1 h2 _
    exact h v' w' (Own.step (xs := xs) (ys := text L z i) h1 (by rw [text_length])) (St.grown (unhide hown) hB h2)

theorem sep_first (f : Bool) (emp : Nat) (sb wh : Bool) : sep f emp sb false wh = List.replicate emp 10 := by unfold sep; rw [if_pos rfl]
theorem sep_fold (f : Bool) (emp : Nat) (sb wh : Bool) (h : f = true ∧ wh = false ∧ sb = false) : sep f emp sb true wh = foldL emp := by unfold sep; rw [if_neg (by simp), if_pos h]
theorem sep_plain (f : Bool) (emp : Nat) (sb wh : Bool) (h : ¬ (f = true ∧ wh = false ∧ sb = false)) : sep f emp sb true wh = List.replicate (emp + 1) 10 := by unfold sep; rw [if_neg (by simp), if_neg h]

def TC (ch : Int) (q n : Nat) : Nat := if ch = 45 then 0 else if ch = 0 then 1 else n - q

set_option maxHeartbeats 2000000 in
theorem bv_some (lb n l : Nat) (A : Nat → Option Addr) (L C : Nat → Nat) (z : Nat → Nat → Int) (E : Nat → Bool) (f : Bool) (ch : Int) (w : World) (hl : n ≤ 65536) (hln : LN w lb n A L C z E) (hsum : sumL L n ≤ 1048576)
    (hll : l < n) (hEl : E l = false) (hEr : ∀ i, l < i → i < n → E i = true) :
    Calls Try.prog 33 #[.slice (some ⟨lb, 0, none⟩) n n, .bool f, .int .u8 ch] w fun e w' => StrP w ((bs f E L z (l + 1)).1 ++ List.replicate (TC ch l n) 10) e w' := by
  have HLN := hide hln
  have HEl := hide hEl
  have HEr := hide hEr
  clear hln hEl hEr
  go_enter Try.func33, Try.ntmps33
  go_wp2
  go_loop [7] (fun i => ∃ k : Nat, l < k ∧ k ≤ n ∧ i = .int .i64 ((k : Int) - 1)) (fun i => (intOf i + 1).toNat)
  case atStart => exact ⟨n, by omega, by omega, rfl⟩
  case round =>
    obtain ⟨k, hkl, hk, rfl⟩ := hrel
    obtain ⟨q, rfl⟩ : ∃ q, k = q + 1 := ⟨k - 1, by omega⟩
    rw [show (((q + 1 : Nat) : Int) - 1) = (q : Int) by omega]
    have hcq := (unhide HLN q (by omega)).2.1
    by_cases hql : q = l
    · subst hql
      rw [unhide HEl] at hcq
      go_wp2
      clear hcq
      go_loopw [8, 9, 10, 11, 36] (fun v em sb st i wr => ∃ j : Nat, j ≤ q + 1 ∧ i = .int .i64 j ∧ Own wr w.heap.size v (bs f E L z j).1 ∧ em = .int .i64 ((bs f E L z j).2.1 : Nat) ∧ sb = .bool (bs f E L z j).2.2.1 ∧ st = .bool (bs f E L z j).2.2.2 ∧ St w.heap.size w wr) (fun _ _ _ _ i _ => q + 1 - (intOf i).toNat)
      case atStart => exact ⟨0, by omega, rfl, World.ownsRow_nil _ _ _ _, rfl, rfl, rfl, St.refl _ _⟩
      case round =>
        rename World => w1
        obtain ⟨j, hj, rfl, hown, rfl, rfl, rfl, hst⟩ := hrel
        by_cases hlt : j < q + 1
        · obtain ⟨hc1, hc2, hE0, hA0, hA1⟩ := unhide HLN j (by omega)
          have hd1 := cell_later hst.1 hc1
          have hd2 := cell_later hst.1 hc2
          have hbd := bs_bd f E L z j
          have hsl : sumL L (j + 1) ≤ sumL L n := sumL_mono L (by omega)
          rw [sumL_succ] at hsl
          have hsz : w.heap.size ≤ w1.heap.size := hst.1.size
          obtain ⟨⟨out, emp, sb, st⟩, hbs⟩ : ∃ s, bs f E L z j = s := ⟨_, rfl⟩
          rw [hbs] at hown hbd ⊢
          simp only at hown hbd ⊢
          have HBS := hide hbs
          have HOW := hide hown
          have HST := hide hst
          have hol : out.length ≤ 2000000 := by omega
          have hel : emp ≤ 2000000 := by omega
          have hLj : L j ≤ 1048576 := by omega
          clear hown hst hc1 hc2 hbs hbd hsl
          cases hE : E j
          · have HE := hide hE
            rw [hE] at hd2
            have hLp := hE0 hE
            obtain ⟨y, hy⟩ : ∃ y, A j = some y := by
              cases hAj : A j with
              | none => have := hA0 hAj; omega
              | some y => exact ⟨y, rfl⟩
            rw [hy] at hd1
            have hcell := hA1 y hy
            have hcw1 : Hid (∀ q, q < L j → w1.cell? (y.add q) = some (.int .u8 (z j q))) := fun q hq => cell_later (unhide HST).1 (hcell q hq)
            have HCW := hide hcell
            have hy0 : ∀ o, (w1.alloc o).cell? y = some (.int .u8 (z j 0)) := fun o => by
              have := cell_later ((Below.refl _ _).alloc (Nat.le_refl _) o) (unhide hcw1 0 hLp)
              have e0 : y.add 0 = y := by unfold Addr.add; split <;> simp_all
              rw [e0] at this
              exact this
            obtain ⟨wh, hwh⟩ : ∃ wh, whiteB (z j 0) = wh := ⟨_, rfl⟩
            clear hE hE0 hA0 hA1 hy hcell
            go_upto_block 4 with (go_at_call 40; refine (isWhite_any _ _).mono ?_; rintro e w2 ⟨rfl, hw⟩; subst w2)
            clear hy0
            go_cut [8] (fun v wx => Own wx w.heap.size v (out ++ sep f emp sb st wh) ∧ St w.heap.size (w1.alloc (.cells #[.slice (some y) (L j) (C j), .bool false] 46)) wx)
            case first =>
              clear hd1 hd2
              cases st
              · have hsep := hide (sep_first f emp sb wh)
                go_wp2
                go_loopw [8, 61] (fun v i wi => ∃ k : Nat, k ≤ emp ∧ i = .int .i64 k ∧ Own wi w.heap.size v (out ++ List.replicate k 10) ∧ St w.heap.size (w1.alloc (.cells #[.slice (some y) (L j) (C j), .bool false] 46)) wi) (fun _ i _ => emp - (intOf i).toNat)
                case atStart => exact ⟨0, by omega, rfl, by rw [List.replicate_zero, List.append_nil]; exact World.ownsRow.alloc (unhide HOW) _, St.refl _ _⟩
                case round =>
                  rename World => wi
                  obtain ⟨k, hk2, rfl, hown, hst⟩ := hrel
                  clear HOW
                  by_cases hk3 : k < emp
                  · have hBr : w.heap.size ≤ wi.heap.size := by have := hst.1.size; simp at this; omega
                    generalize hys : out ++ List.replicate k 10 = ys at hown
                    have hyl : ys.length ≤ 9999999 := by rw [← hys]; simp; omega
                    have HYS := hide hys
                    have HOW := hide hown
                    have HST2 := hide hst
                    clear hown hst hys
                    go_wp2_with (at_builtin; refine wpList_app_one (by rfl) _ _ (by rfl) w.heap.size _ ys 10 wi (by rfl) (by rfl) HOW hBr hyl ?_)
                    intro v' w3 R1 R2
                    have R3 : Hid (Own w3 w.heap.size v' (out ++ List.replicate (k + 1) 10)) := by
                      have := unhide R1
                      rw [← unhide HYS, List.append_assoc, ← List.replicate_succ'] at this
                      exact this
                    have R4 : Hid (St w.heap.size (w1.alloc (.cells #[.slice (some y) (L j) (C j), .bool false] 46)) w3) := (unhide HST2).trans (unhide R2)
                    go_wp2
                    go_roundw
                    case rel => first | exact ⟨k + 1, by omega, by go_num, unhide R3, unhide R4⟩ | ((repeat apply Exists.intro); exact ⟨⟨k + 1, by omega, by go_num, unhide R3, unhide R4⟩, rfl⟩)
                    case measure => simp [intOf]; omega
                  · have hkk : k = emp := by omega
                    subst hkk
                    go_wp2
                    go_meet
                    case rel => exact ⟨by rw [unhide hsep]; exact hown, hst⟩
              · by_cases hfold : f = true ∧ wh = false ∧ sb = false
                · have hsep := hide (sep_fold f emp sb wh hfold)
                  obtain ⟨rfl, rfl, rfl⟩ := hfold
                  have hbx : w.heap.size ≤ (w1.alloc (.cells #[.slice (some y) (L j) (C j), .bool false] 46)).heap.size := by simp; omega
                  go_wp2_with (go_at_call 41; refine (fold_any w.heap.size _ out emp _ (by simp; omega) (by omega) (by omega) (World.ownsRow.alloc (unhide HOW) _)).mono ?_; rintro e w2 ⟨v2, rfl, R1, R2⟩)
                  go_meet
                  case rel => exact ⟨by rw [unhide hsep]; assumption, by assumption⟩
                · have hsep := hide (sep_plain f emp sb wh hfold)
                  have hcs : f = false ∨ (f = true ∧ wh = true) ∨ (f = true ∧ wh = false ∧ sb = true) := by
                    cases f <;> cases wh <;> cases sb <;> simp_all
                  clear hfold
                  rcases hcs with rfl | ⟨rfl, rfl⟩ | ⟨rfl, rfl, rfl⟩
                  all_goals
                    go_wp2
                    go_loopw [8, 51] (fun v i wi => ∃ k : Nat, k ≤ (emp + 1) ∧ i = .int .i64 k ∧ Own wi w.heap.size v (out ++ List.replicate k 10) ∧ St w.heap.size (w1.alloc (.cells #[.slice (some y) (L j) (C j), .bool false] 46)) wi) (fun _ i _ => (emp + 1) - (intOf i).toNat)
                    case atStart => exact ⟨0, by omega, rfl, by rw [List.replicate_zero, List.append_nil]; exact World.ownsRow.alloc (unhide HOW) _, St.refl _ _⟩
                    case round =>
                      rename World => wi
                      obtain ⟨k, hk2, rfl, hown, hst⟩ := hrel
                      clear HOW
                      by_cases hk3 : k < (emp + 1)
                      · have hBr : w.heap.size ≤ wi.heap.size := by have := hst.1.size; simp at this; omega
                        generalize hys : out ++ List.replicate k 10 = ys at hown
                        have hyl : ys.length ≤ 9999999 := by rw [← hys]; simp; omega
                        have HYS := hide hys
                        have HOW := hide hown
                        have HST2 := hide hst
                        clear hown hst hys
                        go_wp2_with (at_builtin; refine wpList_app_one (by rfl) _ _ (by rfl) w.heap.size _ ys 10 wi (by rfl) (by rfl) HOW hBr hyl ?_)
                        intro v' w3 R1 R2
                        have R3 : Hid (Own w3 w.heap.size v' (out ++ List.replicate (k + 1) 10)) := by
                          have := unhide R1
                          rw [← unhide HYS, List.append_assoc, ← List.replicate_succ'] at this
                          exact this
                        have R4 : Hid (St w.heap.size (w1.alloc (.cells #[.slice (some y) (L j) (C j), .bool false] 46)) w3) := (unhide HST2).trans (unhide R2)
                        go_wp2
                        go_roundw
                        case rel => first | exact ⟨k + 1, by omega, by go_num, unhide R3, unhide R4⟩ | ((repeat apply Exists.intro); exact ⟨⟨k + 1, by omega, by go_num, unhide R3, unhide R4⟩, rfl⟩)
                        case measure => simp [intOf]; omega
                      · have hkk : k = (emp + 1) := by omega
                        subst hkk
                        go_wp2
                        go_meet
                        case rel => exact ⟨by rw [unhide hsep]; exact hown, hst⟩
            case rest =>
              obtain ⟨hown2, hst2⟩ := hcut
              have hbox := box_later hst2 0 (.slice (some y) (L j) (C j)) rfl
              have hbw := (hst2.1 : Below w.heap.size (w1.alloc (.cells #[.slice (some y) (L j) (C j), .bool false] 46)) wc)
              have hallb : Below w.heap.size w wc := ((unhide HST).1.alloc hsz _).trans hbw
              have HCE : Hid (∀ q, q < L j → wc.cell? (y.add q) = some (.int .u8 (z j q))) := fun q hq => cell_later hallb (unhide HCW q hq)
              generalize hys : out ++ sep f emp sb st wh = ys at hown2
              have hyl : ys.length ≤ 9999999 := by rw [← hys]; have := sep_length f emp sb st wh; simp; omega
              have HYS := hide hys
              have HOW2 := hide hown2
              have HST2 : Hid (St w.heap.size w wc) := ((unhide HST).alloc hsz _).trans hst2
              have hsz2 : w.heap.size ≤ wc.heap.size := hallb.size
              have HNB : Hid (bs f E L z (j + 1) = (ys ++ text L z j, 0, wh, true)) := by
                have := bs_line (unhide HBS) (unhide HE)
                rw [hwh, hys] at this
                exact this
              clear hys hown2 hst2 hbw hallb HOW hd1 hd2
              go_wp2_with (at_builtin; refine wpList_app_text (by rfl) _ _ (by rfl) w.heap.size _ ys L z j _ y wc (by rfl) (by rfl) HOW2 hsz2 hyl (by omega) HCE ?_)
              intro v' w3 R1 R2
              have R3 := hide ((unhide HST2).trans (unhide R2))
              go_wp2
              go_roundw
              case rel => exact ⟨j + 1, by omega, by go_num, by rw [unhide HNB]; exact unhide R1, by rw [unhide HNB]; rfl, by rw [unhide HNB], by rw [unhide HNB], unhide R3⟩
              case measure => simp [intOf]; omega
          · have HNB := hide (bs_empty (unhide HBS) hE)
            rw [hE] at hd2
            clear hE hE0 hA0 hA1
            go_wp2
            go_roundw
            case rel => exact ⟨j + 1, by omega, by go_num, by rw [unhide HNB]; exact World.ownsRow.alloc (unhide HOW) _, by rw [unhide HNB]; go_num, by rw [unhide HNB], by rw [unhide HNB], (unhide HST).alloc hsz _⟩
            case measure => simp [intOf]; omega
        · have hjq : j = q + 1 := by omega
          subst hjq
          have hbdy := bs_bd f E L z (q + 1)
          have hsl2 : sumL L (q + 1) ≤ sumL L n := sumL_mono L (by omega)
          have hbl : (bs f E L z (q + 1)).1.length ≤ 2000000 := by omega
          generalize hbody : (bs f E L z (q + 1)).1 = body at hown hbl
          have HB := hide hbody
          have HOW := hide hown
          have HST := hide hst
          clear hown hst hbody hbdy hsl2
          by_cases h45 : ch = 45
          · subst h45
            by_cases hnq : n = q + 1
            · have hnq1 : n ≤ q + 1 := by omega
              clear hnq
              have HT : Hid (TC 45 q n = 0) := by show TC 45 q _ = 0; unfold TC; rw [if_pos rfl]
              go_wp2
              go_loopw [8, 97] (fun v i wr => ∃ k : Nat, k ≤ 0 ∧ i = .int .i64 k ∧ Own wr w.heap.size v (body ++ List.replicate k 10) ∧ St w.heap.size w wr) (fun _ i _ => 0 - (intOf i).toNat)
              case atStart => exact ⟨0, by omega, rfl, by rw [List.replicate_zero, List.append_nil]; exact unhide HOW, unhide HST⟩
              case round =>
                rename World => wi
                obtain ⟨k, hk2, rfl, hown, hst⟩ := hrel
                clear HOW HST
                by_cases hk3 : k < 0
                · omega
                · have hkk : k = 0 := by omega
                  subst hkk
                  generalize hys : body ++ List.replicate 0 10 = ys at hown
                  have HYS := hide hys
                  have hcv := conv_own hown
                  have HBB := hide hst.1
                  clear hown hst hys
                  go_wp2
                  go_ret
                  exact ⟨by rw [unhide HB, unhide HT, unhide HYS]; rfl, unhide HBB⟩
            · have hnq2 : q + 1 < n := by omega
              have HT : Hid (TC 45 q n = 0) := by show TC 45 q _ = 0; unfold TC; rw [if_pos rfl]
              go_wp2
              go_loopw [8, 97] (fun v i wr => ∃ k : Nat, k ≤ 0 ∧ i = .int .i64 k ∧ Own wr w.heap.size v (body ++ List.replicate k 10) ∧ St w.heap.size w wr) (fun _ i _ => 0 - (intOf i).toNat)
              case atStart => exact ⟨0, by omega, rfl, by rw [List.replicate_zero, List.append_nil]; exact unhide HOW, unhide HST⟩
              case round =>
                rename World => wi
                obtain ⟨k, hk2, rfl, hown, hst⟩ := hrel
                clear HOW HST
                by_cases hk3 : k < 0
                · omega
                · have hkk : k = 0 := by omega
                  subst hkk
                  generalize hys : body ++ List.replicate 0 10 = ys at hown
                  have HYS := hide hys
                  have hcv := conv_own hown
                  have HBB := hide hst.1
                  clear hown hst hys
                  go_wp2
                  go_ret
                  exact ⟨by rw [unhide HB, unhide HT, unhide HYS]; rfl, unhide HBB⟩
          · by_cases hc0 : ch = 0
            · subst hc0
              clear h45
              by_cases hnq : n = q + 1
              · have hnq1 : n ≤ q + 1 := by omega
                clear hnq
                have HT : Hid (TC 0 q n = 1) := by show TC 0 q _ = 1; unfold TC; rw [if_neg (by omega), if_pos rfl]
                go_wp2
                go_loopw [8, 97] (fun v i wr => ∃ k : Nat, k ≤ 1 ∧ i = .int .i64 k ∧ Own wr w.heap.size v (body ++ List.replicate k 10) ∧ St w.heap.size w wr) (fun _ i _ => 1 - (intOf i).toNat)
                case atStart => exact ⟨0, by omega, rfl, by rw [List.replicate_zero, List.append_nil]; exact unhide HOW, unhide HST⟩
                case round =>
                  rename World => wi
                  obtain ⟨k, hk2, rfl, hown, hst⟩ := hrel
                  clear HOW HST
                  by_cases hk3 : k < 1
                  · have hBr : w.heap.size ≤ wi.heap.size := hst.1.size
                    generalize hys : body ++ List.replicate k 10 = ys at hown
                    have hyl : ys.length ≤ 9999999 := by rw [← hys]; simp; omega
                    have HYS := hide hys
                    have HOW := hide hown
                    have HST := hide hst
                    clear hown hst hys
                    go_wp2_with (at_builtin; refine wpList_app_one (by rfl) _ _ (by rfl) w.heap.size _ ys 10 wi (by rfl) (by rfl) HOW hBr hyl ?_)
                    intro v' w3 R1 R2
                    have R3 : Hid (Own w3 w.heap.size v' (body ++ List.replicate (k + 1) 10)) := by
                      have := unhide R1
                      rw [← unhide HYS, List.append_assoc, ← List.replicate_succ'] at this
                      exact this
                    have R4 : Hid (St w.heap.size w w3) := (unhide HST).trans (unhide R2)
                    go_wp2
                    go_roundw
                    case rel => first | exact ⟨k + 1, by omega, by go_num, unhide R3, unhide R4⟩ | ((repeat apply Exists.intro); exact ⟨⟨k + 1, by omega, by go_num, unhide R3, unhide R4⟩, rfl⟩)
                    case measure => simp [intOf]; omega
                  · have hkk : k = 1 := by omega
                    subst hkk
                    generalize hys : body ++ List.replicate 1 10 = ys at hown
                    have HYS := hide hys
                    have hcv := conv_own hown
                    have HBB := hide hst.1
                    clear hown hst hys
                    go_wp2
                    go_ret
                    exact ⟨by rw [unhide HB, unhide HT, unhide HYS]; rfl, unhide HBB⟩
              · have hnq2 : q + 1 < n := by omega
                have HT : Hid (TC 0 q n = 1) := by show TC 0 q _ = 1; unfold TC; rw [if_neg (by omega), if_pos rfl]
                go_wp2
                go_loopw [8, 97] (fun v i wr => ∃ k : Nat, k ≤ 1 ∧ i = .int .i64 k ∧ Own wr w.heap.size v (body ++ List.replicate k 10) ∧ St w.heap.size w wr) (fun _ i _ => 1 - (intOf i).toNat)
                case atStart => exact ⟨0, by omega, rfl, by rw [List.replicate_zero, List.append_nil]; exact unhide HOW, unhide HST⟩
                case round =>
                  rename World => wi
                  obtain ⟨k, hk2, rfl, hown, hst⟩ := hrel
                  clear HOW HST
                  by_cases hk3 : k < 1
                  · have hBr : w.heap.size ≤ wi.heap.size := hst.1.size
                    generalize hys : body ++ List.replicate k 10 = ys at hown
                    have hyl : ys.length ≤ 9999999 := by rw [← hys]; simp; omega
                    have HYS := hide hys
                    have HOW := hide hown
                    have HST := hide hst
                    clear hown hst hys
                    go_wp2_with (at_builtin; refine wpList_app_one (by rfl) _ _ (by rfl) w.heap.size _ ys 10 wi (by rfl) (by rfl) HOW hBr hyl ?_)
                    intro v' w3 R1 R2
                    have R3 : Hid (Own w3 w.heap.size v' (body ++ List.replicate (k + 1) 10)) := by
                      have := unhide R1
                      rw [← unhide HYS, List.append_assoc, ← List.replicate_succ'] at this
                      exact this
                    have R4 : Hid (St w.heap.size w w3) := (unhide HST).trans (unhide R2)
                    go_wp2
                    go_roundw
                    case rel => first | exact ⟨k + 1, by omega, by go_num, unhide R3, unhide R4⟩ | ((repeat apply Exists.intro); exact ⟨⟨k + 1, by omega, by go_num, unhide R3, unhide R4⟩, rfl⟩)
                    case measure => simp [intOf]; omega
                  · have hkk : k = 1 := by omega
                    subst hkk
                    generalize hys : body ++ List.replicate 1 10 = ys at hown
                    have HYS := hide hys
                    have hcv := conv_own hown
                    have HBB := hide hst.1
                    clear hown hst hys
                    go_wp2
                    go_ret
                    exact ⟨by rw [unhide HB, unhide HT, unhide HYS]; rfl, unhide HBB⟩
            · have hq1 : (ch == 45) = false := by simpa using h45
              have hq2 : (ch == 0) = false := by simpa using hc0
              have HTN : ∀ m, Hid (TC ch q m = m - q) := fun m => by show TC ch q m = m - q; unfold TC; rw [if_neg h45, if_neg hc0]
              have HTN2 := hide HTN
              clear h45 hc0 HTN
              by_cases hnq : n = q + 1
              · have hnq1 : n ≤ q + 1 := by omega
                clear hnq
                have HT : Hid (TC ch q n = (n - q)) := unhide HTN2 _
                go_wp2
                go_loopw [8, 97] (fun v i wr => ∃ k : Nat, k ≤ (n - q) ∧ i = .int .i64 k ∧ Own wr w.heap.size v (body ++ List.replicate k 10) ∧ St w.heap.size w wr) (fun _ i _ => (n - q) - (intOf i).toNat)
                case atStart => exact ⟨0, by omega, rfl, by rw [List.replicate_zero, List.append_nil]; exact unhide HOW, unhide HST⟩
                case round =>
                  rename World => wi
                  obtain ⟨k, hk2, rfl, hown, hst⟩ := hrel
                  clear HOW HST
                  by_cases hk3 : k < (n - q)
                  · have hBr : w.heap.size ≤ wi.heap.size := hst.1.size
                    generalize hys : body ++ List.replicate k 10 = ys at hown
                    have hyl : ys.length ≤ 9999999 := by rw [← hys]; simp; omega
                    have HYS := hide hys
                    have HOW := hide hown
                    have HST := hide hst
                    clear hown hst hys
                    go_wp2_with (at_builtin; refine wpList_app_one (by rfl) _ _ (by rfl) w.heap.size _ ys 10 wi (by rfl) (by rfl) HOW hBr hyl ?_)
                    intro v' w3 R1 R2
                    have R3 : Hid (Own w3 w.heap.size v' (body ++ List.replicate (k + 1) 10)) := by
                      have := unhide R1
                      rw [← unhide HYS, List.append_assoc, ← List.replicate_succ'] at this
                      exact this
                    have R4 : Hid (St w.heap.size w w3) := (unhide HST).trans (unhide R2)
                    go_wp2
                    go_roundw
                    case rel => first | exact ⟨k + 1, by omega, by go_num, unhide R3, unhide R4⟩ | ((repeat apply Exists.intro); exact ⟨⟨k + 1, by omega, by go_num, unhide R3, unhide R4⟩, rfl⟩)
                    case measure => simp [intOf]; omega
                  · have hkk : k = (n - q) := by omega
                    subst hkk
                    generalize hys : body ++ List.replicate (n - q) 10 = ys at hown
                    have HYS := hide hys
                    have hcv := conv_own hown
                    have HBB := hide hst.1
                    clear hown hst hys
                    go_wp2
                    go_ret
                    exact ⟨by rw [unhide HB, unhide HT, unhide HYS]; rfl, unhide HBB⟩
              · have hnq2 : q + 1 < n := by omega
                have HT : Hid (TC ch q n = (n - q)) := unhide HTN2 _
                go_wp2
                go_loopw [8, 97] (fun v i wr => ∃ k : Nat, k ≤ (n - q) ∧ i = .int .i64 k ∧ Own wr w.heap.size v (body ++ List.replicate k 10) ∧ St w.heap.size w wr) (fun _ i _ => (n - q) - (intOf i).toNat)
                case atStart => exact ⟨0, by omega, rfl, by rw [List.replicate_zero, List.append_nil]; exact unhide HOW, unhide HST⟩
                case round =>
                  rename World => wi
                  obtain ⟨k, hk2, rfl, hown, hst⟩ := hrel
                  clear HOW HST
                  by_cases hk3 : k < (n - q)
                  · have hBr : w.heap.size ≤ wi.heap.size := hst.1.size
                    generalize hys : body ++ List.replicate k 10 = ys at hown
                    have hyl : ys.length ≤ 9999999 := by rw [← hys]; simp; omega
                    have HYS := hide hys
                    have HOW := hide hown
                    have HST := hide hst
                    clear hown hst hys
                    go_wp2_with (at_builtin; refine wpList_app_one (by rfl) _ _ (by rfl) w.heap.size _ ys 10 wi (by rfl) (by rfl) HOW hBr hyl ?_)
                    intro v' w3 R1 R2
                    have R3 : Hid (Own w3 w.heap.size v' (body ++ List.replicate (k + 1) 10)) := by
                      have := unhide R1
                      rw [← unhide HYS, List.append_assoc, ← List.replicate_succ'] at this
                      exact this
                    have R4 : Hid (St w.heap.size w w3) := (unhide HST).trans (unhide R2)
                    go_wp2
                    go_roundw
                    case rel => first | exact ⟨k + 1, by omega, by go_num, unhide R3, unhide R4⟩ | ((repeat apply Exists.intro); exact ⟨⟨k + 1, by omega, by go_num, unhide R3, unhide R4⟩, rfl⟩)
                    case measure => simp [intOf]; omega
                  · have hkk : k = (n - q) := by omega
                    subst hkk
                    generalize hys : body ++ List.replicate (n - q) 10 = ys at hown
                    have HYS := hide hys
                    have hcv := conv_own hown
                    have HBB := hide hst.1
                    clear hown hst hys
                    go_wp2
                    go_ret
                    exact ⟨by rw [unhide HB, unhide HT, unhide HYS]; rfl, unhide HBB⟩
    · rw [unhide HEr q (by omega) (by omega)] at hcq
      go_wp2
      go_round
      case rel => exact ⟨q, by omega, by omega, rfl⟩
      case measure => simp [intOf]
end Go.Proofs.Qxb6601440a.Bv
