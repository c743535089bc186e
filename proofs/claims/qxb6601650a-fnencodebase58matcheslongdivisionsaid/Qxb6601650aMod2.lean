/-
  zzModelBase58: nothing but zeros; the ways joined.
-/
import Derived.Test.Qxb6601650aMod
namespace Go.Proofs.Qxb6601650a
open Go.RowKit
set_option linter.unusedVariables false

set_option maxHeartbeats 4000000 in
set_option maxRecDepth 100000 in
theorem mod_all (x : Addr) (n zc : Nat) (z : Nat → Nat) (w : World) (hn : n ≤ 4096) (hx : LX w (some x) n z) (hz : ∀ i, i < n → z i < 256) (hl : Lead n z zc) (hzn : n ≤ zc) :
    Calls Try.prog 9 #[.slice (some x) n n] w fun e w' => EncP w n z e w' := by
  have HL := hide hl
  have HZ := hide hz
  have hzn0 := hl.le
  have hxc : ∀ j, j < n → w.cell? (x.add j) = some (.int .u8 (z j : Nat)) := hx.2 x rfl
  have HXC := hide hxc
  obtain ⟨m, hm⟩ : ∃ m, n - zc = m := ⟨_, rfl⟩
  have hmk1 := fun w => make_full ((n : Int) - zc) m (by omega) (by omega) w
  have hmk2 := fun w => make_cap (2 * (m : Int) + 1) (by omega) (by omega) w
  obtain ⟨cp, hcp⟩ : ∃ cp, (2 * (m : Int) + 1).toNat = cp := ⟨_, rfl⟩
  rw [hcp] at hmk2
  have hcpb : cp ≤ 99999 := by omega
  have HM := hide hm
  have hmb : zc + m = n := by omega
  have hmb1 : zc + m ≤ n := by omega
  have hmb2 : n ≤ zc + m := by omega
  have HROW0 : Hid ((w.alloc (.cells (madeCells #[.int .u8 0] m) 5)).rowIs w.heap.size 5 m (fun j => bv (if j < 0 then z (zc + j) else 0))) := (World.rowIs_made w (.int .u8 0) m 5).congr (fun i hi => by simp [bv])
  have HBEL0 : Hid (Below w.heap.size w (w.alloc (.cells (madeCells #[.int .u8 0] m) 5))) := (Below.refl _ _).alloc (Nat.le_refl _) _
  clear hx hl hz hxc hcp hm hmb
  go_enter Try.func9, Try.ntmps9
  go_wp2
  go_loop [3] (fun i => ∃ k : Nat, k ≤ zc ∧ i = .int .i64 k) (fun i => zc - (intOf i).toNat)
  case atStart => exact ⟨0, by omega, rfl⟩
  case round =>
    obtain ⟨k, hk, rfl⟩ := hrel
    by_cases hlt : k < zc
    · have hck := unhide HXC k (by omega)
      rw [(unhide HL).zero k hlt] at hck
      clear hmk1 hmk2
      go_wp2
      go_round
      case rel => exact ⟨k + 1, by omega, by go_num⟩
      case measure => simp [intOf]; omega
    · have hkz : zc = k := by omega
      subst hkz
      go_wp2
      go_loopw [5] (fun i wr => ∃ k : Nat, k ≤ m ∧ i = .int .i64 k ∧ wr.rowIs w.heap.size 5 m (fun j => bv (if j < k then z (zc + j) else 0)) ∧ Below w.heap.size w wr) (fun i _ => m - (intOf i).toNat)
      case atStart => exact ⟨0, by omega, rfl, unhide HROW0, unhide HBEL0⟩
      case round =>
        rename World => w1
        obtain ⟨k, hk2, rfl, hrw, hb⟩ := hrel
        clear HROW0 HBEL0 hmk1
        by_cases hkm : k < m
        · omega
        · have hkm2 : k = m := by omega
          subst hkm2
          have HLOOP : Hid (LoopR w k (be 256 z zc k) (.slice (some ⟨w1.heap.size, 0, none⟩) 0 cp) 0 0 (w1.alloc (.cells (madeCells #[.int .u8 0] cp) 5)) (fun j => if j < k then z (zc + j) else 0) []) := by
            have hw1 := hrw.lt
            refine ⟨hrw.alloc _, fun j hj => ?_, ⟨by omega, fun j hj => by omega, fun h0 => ?_⟩, ?_, ⟨_, _, rfl⟩, fun d hd => (by cases hd), rfl, ?_, fun _ => .inl rfl, hb.alloc hb.size _⟩
            · rw [if_pos hj]; exact unhide HZ (zc + j) (by omega)
            · rw [if_pos h0, Nat.add_zero]; exact (unhide HL).stop (by omega)
            · have := own_made w1 cp (by unfold maxLen; omega)
              obtain ⟨q1, q2⟩ := this
              refine ⟨q1, ?_⟩
              rcases q2 with q2 | ⟨gg, cc, cu, e1, e2, rst⟩
              · exact .inl q2
              · exact .inr ⟨gg, cc, cu, e1, by omega, rst⟩
            · rw [val, List.length_nil, Nat.pow_zero, Nat.one_mul, Nat.zero_add]
              exact be_congr _ _ _ _ _ _ (fun j hj => by rw [Nat.zero_add, if_pos hj])
          have HX : Hid (be 256 z zc k < 256 ^ k) := be_lt 256 z zc k (fun i hi => unhide HZ (zc + i) (by omega))
          clear hrw hb
          go_wp2
          clear hmk2
          go_loopw [6, 7, 8] (fun v stv tv wr => ∃ (st t : Nat) (F : Nat → Nat) (rs : List Nat), stv = .int .i64 st ∧ tv = .int .i64 t ∧ LoopR w k (be 256 z zc k) v st t wr F rs) (fun _ _ tv _ => 2 * k + 1 - (intOf tv).toNat)
          case atStart => exact ⟨0, 0, _, _, rfl, rfl, unhide HLOOP⟩
          case round =>
            rename World => w2
            obtain ⟨st, t, F, rs, rfl, rfl, hlr⟩ := hrel
            clear HLOOP
            obtain ⟨ht2, hpos, hzero⟩ := hlr.bound (unhide HX)
            have hstk := hlr.lead.le
            by_cases hst : st < k
            · omega
            · have hV0 := hzero hst
              have hsum := hlr.sum
              rw [hV0, Nat.mul_zero, Nat.add_zero] at hsum
              have HENC : Hid (Enc n z zc rs) := ⟨unhide HL, hlr.dig, hlr.norm hV0, by rw [hsum, unhide HM]⟩
              obtain ⟨g, cg, hsh⟩ := hlr.shape
              have hown := hlr.own
              subst hsh
              have hlen := hlr.len
              have HRC : Hid (∀ j, j < rs.length → w2.cell? ⟨g, j, none⟩ = some (.int .u8 ((alpha (rs.getD j 0) : Nat) : Int))) := fun j hj => by
                have h1 : Own w2 (w.heap.size + 1) (.slice (some ⟨g, 0, none⟩) (rs.map alpha).length cg) (rs.map alpha) := by rw [List.length_map]; exact hown
                have := h1.cell j (by rw [List.length_map]; exact hj)
                rw [this, List.getElem_map, List.getD_eq_getElem?_getD, List.getElem?_eq_getElem hj]
                rfl
              have hmk3 := fun w => make_full ((zc : Int) + (rs.length : Int)) (zc + rs.length) (by omega) (by omega) w
              have HROW6 : Hid ((w2.alloc (.cells (madeCells #[.int .u8 0] (zc + rs.length)) 5)).rowIs w2.heap.size 5 (zc + rs.length) (fun j => bv (if j < 0 then 49 else 0))) := (World.rowIs_made w2 (.int .u8 0) (zc + rs.length) 5).congr (fun i hi => by simp [bv])
              have HBEL6 : Hid (Below w2.heap.size w2 (w2.alloc (.cells (madeCells #[.int .u8 0] (zc + rs.length)) 5))) := (Below.refl _ _).alloc (Nat.le_refl _) _
              have HB := hide hlr.bel
              have hwsz : w.heap.size ≤ w2.heap.size := hlr.bel.size
              have hrl : rs.length ≤ 2 * k := by omega
              clear hlr hown hV0 hsum hpos hzero hlen
              go_wp2
              clear hmk3
              go_loopw [13] (fun i wr => ∃ q : Nat, q ≤ zc ∧ i = .int .i64 q ∧ wr.rowIs w2.heap.size 5 (zc + rs.length) (fun j => bv (if j < q then 49 else 0)) ∧ Below w2.heap.size w2 wr) (fun i _ => zc - (intOf i).toNat)
              case atStart => exact ⟨0, by omega, rfl, unhide HROW6, unhide HBEL6⟩
              case round =>
                rename World => wr
                obtain ⟨q, hq2, rfl, hrw, hb⟩ := hrel
                clear HROW6 HBEL6
                by_cases hqz : q < zc
                · obtain ⟨v2, h2⟩ : ∃ v, wr.cell? ⟨w2.heap.size, q, none⟩ = some v := ⟨_, hrw.cell (by omega)⟩
                  have h3 := hrw.frozen q
                  have HN := hide (ones_step hrw)
                  have HBN := hide hb
                  clear hrw hb
                  go_wp2
                  go_roundw
                  case rel => exact ⟨q + 1, by omega, by go_num, unhide HN, (unhide HBN).setCell (Nat.le_refl _) _⟩
                  case measure => simp [intOf]; omega
                · have hqe : q = zc := by omega
                  subst hqe
                  have HST := hide (mt_start hrw)
                  have HBN := hide hb
                  clear hrw hb
                  go_wp2
                  go_loopw [14] (fun i wr => ∃ p : Nat, p ≤ rs.length ∧ i = .int .i64 p ∧ wr.rowIs w2.heap.size 5 (q + rs.length) (fun j => bv (mtF q rs p j)) ∧ Below w2.heap.size w2 wr) (fun i _ => rs.length - (intOf i).toNat)
                  case atStart => exact ⟨0, by omega, rfl, unhide HST, unhide HBN⟩
                  case round =>
                    rename World => wt
                    obtain ⟨p, hp, rfl, hrw, hb⟩ := hrel
                    clear HST HBN
                    by_cases hpl : p < rs.length
                    · omega
                    · have hpe : p = rs.length := by omega
                      subst hpe
                      have hcv := conv_row (mt_done hrw)
                      rw [encF_list] at hcv
                      have HBF : Hid (Below w.heap.size w wt) := (unhide HB).trans (hb.mono hwsz)
                      clear hrw hb
                      go_wp2
                      go_ret
                      exact ⟨q, rs, unhide HENC, rfl, unhide HBF⟩


set_option maxHeartbeats 1000000 in
theorem mod_nil (z : Nat → Nat) (w : World) : Calls Try.prog 9 #[.slice none 0 0] w fun e w' => EncP w 0 z e w' := by
  have HE := hide (enc_zeros 0 z (fun i hi => by omega))
  have hmk := fun w => make_cap 1 (by omega) (by omega) w
  have hmk1 : ∀ w : World, (Instr.makeSlice 22 (.int .i64 0) (.int .i64 1)).run Try.prog w = .ok (.slice (some ⟨w.heap.size, 0, none⟩) 0 1) (w.alloc (.cells (madeCells #[.int .u8 0] 1) 5)) := hmk
  have hmk2 : ∀ w : World, (Instr.makeSlice 22 (.int .i64 0) (.int .i64 0)).run Try.prog w = .ok (.slice (some ⟨w.heap.size, 0, none⟩) 0 0) (w.alloc (.cells (madeCells #[.int .u8 0] 0) 5)) := fun w => make_full 0 0 rfl (by omega) w
  have hbel : Below w.heap.size w (((w.alloc (.cells (madeCells #[.int .u8 0] 0) 5)).alloc (.cells (madeCells #[.int .u8 0] 1) 5)).alloc (.cells (madeCells #[.int .u8 0] 0) 5)) := (((Below.refl _ _).alloc (Nat.le_refl _) _).alloc (by simp) _).alloc (by simp; omega) _
  have hrow : (((w.alloc (.cells (madeCells #[.int .u8 0] 0) 5)).alloc (.cells (madeCells #[.int .u8 0] 1) 5)).alloc (.cells (madeCells #[.int .u8 0] 0) 5)).rowIs (w.heap.size + 1 + 1) 5 0 (fun j => bv 0) := by
    have := World.rowIs_made ((w.alloc (.cells (madeCells #[.int .u8 0] 0) 5)).alloc (.cells (madeCells #[.int .u8 0] 1) 5)) (.int .u8 0) 0 5
    rw [World.size_alloc, World.size_alloc] at this
    exact this.congr (fun i hi => by omega)
  have hcv2 : (convert 22 9 (.slice (some ⟨w.heap.size + 1 + 1, 0, none⟩) 0 0)).run Try.prog _ = .ok (.string (strOf (encL 0 []))) _ := conv_row (F := fun _ => 0) hrow
  have HB := hide hbel
  clear hrow hbel hmk
  go_enter Try.func9, Try.ntmps9
  go_wp2
  refine wp_loop_rounds 1 ?_
  rw [rounds_succ]
  go_wp2
  refine wp_loop_rounds 1 ?_
  rw [rounds_succ]
  go_wp2
  refine wp_loop_rounds 1 ?_
  rw [rounds_succ]
  go_wp2
  refine wp_loop_rounds 1 ?_
  rw [rounds_succ]
  go_wp2
  refine wp_loop_rounds 1 ?_
  rw [rounds_succ]
  go_wp2
  go_ret
  exact ⟨0, [], unhide HE, rfl, unhide HB⟩

theorem mod_any (a : Option Addr) (n : Nat) (z : Nat → Nat) (w : World) (hn : n ≤ 4096) (hx : LX w a n z) (hz : ∀ i, i < n → z i < 256) :
    Calls Try.prog 9 #[.slice a n n] w fun e w' => EncP w n z e w' := by
  cases a with
  | none => obtain rfl := hx.1 rfl; exact mod_nil z w
  | some x =>
    obtain ⟨zc, hl⟩ := lead_exists n z
    by_cases h : zc < n
    · exact mod_some x n zc z w hn hx hz hl h
    · exact mod_all x n zc z w hn hx hz hl (by omega)
end Go.Proofs.Qxb6601650a
