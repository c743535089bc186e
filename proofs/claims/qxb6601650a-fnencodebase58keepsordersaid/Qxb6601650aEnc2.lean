/-
  EncodeBase58: nothing but zeros; the ways joined.
-/
import Derived.Test.Qxb6601650aEnc
namespace Go.Proofs.Qxb6601650a
open Go.RowKit
set_option linter.unusedVariables false

theorem enc_zeros (n : Nat) (z : Nat → Nat) (h : ∀ i, i < n → z i = 0) : Enc n z n [] :=
  ⟨⟨Nat.le_refl _, h, fun h => by omega⟩, fun d hd => (by cases hd), .inl rfl, by rw [Nat.sub_self]; rfl⟩

theorem ones_list (n : Nat) : (List.range n).map (fun j => if j < n then 49 else 0) = encL n [] := by
  unfold encL
  rw [List.reverse_nil, List.map_nil, List.append_nil]
  apply List.ext_getElem?
  intro j
  by_cases hj : j < n
  · rw [List.getElem?_map, List.getElem?_range hj, List.getElem?_replicate, if_pos hj]
    simp [hj]
  · rw [List.getElem?_eq_none (by simp; omega), List.getElem?_eq_none (by simp; omega)]

set_option maxHeartbeats 2000000 in
theorem enc_all (x : Addr) (n : Nat) (z : Nat → Nat) (w : World) (hn : n ≤ 4096) (hx : LX w (some x) n z) (h0 : ∀ i, i < n → z i = 0) :
    Calls Try.prog 8 #[.slice (some x) n n] w fun e w' => EncP w n z e w' := by
  have HE := hide (enc_zeros n z h0)
  have hxc : ∀ j, j < n → w.cell? (x.add j) = some (.int .u8 0) := fun j hj => by rw [hx.2 x rfl j hj, h0 j hj]; rfl
  have HXC := hide hxc
  have hmk := fun w => make_cap 1 (by omega) (by omega) w
  have hmk1 : ∀ w : World, (Instr.makeSlice 22 (.int .i64 0) (.int .i64 1)).run Try.prog w = .ok (.slice (some ⟨w.heap.size, 0, none⟩) 0 1) (w.alloc (.cells (madeCells #[.int .u8 0] 1) 5)) := hmk
  have hmk2 := fun w => make_full (n : Int) n rfl (by omega) w
  have HROW : Hid (((w.alloc (.cells (madeCells #[.int .u8 0] 1) 5)).alloc (.cells (madeCells #[.int .u8 0] n) 5)).rowIs (w.heap.size + 1) 5 n (fun j => bv (if j < 0 then 49 else 0))) := by
    have := World.rowIs_made (w.alloc (.cells (madeCells #[.int .u8 0] 1) 5)) (.int .u8 0) n 5
    rw [World.size_alloc] at this
    exact this.congr (fun i hi => by simp [bv])
  have HBEL : Hid (Below w.heap.size w ((w.alloc (.cells (madeCells #[.int .u8 0] 1) 5)).alloc (.cells (madeCells #[.int .u8 0] n) 5))) := ((Below.refl _ _).alloc (Nat.le_refl _) _).alloc (by simp) _
  clear hx hxc hmk h0
  go_enter Try.func8, Try.ntmps8
  go_wp2
  go_loop [3] (fun i => ∃ k : Nat, k ≤ n ∧ i = .int .i64 k) (fun i => n - (intOf i).toNat)
  case atStart => exact ⟨0, by omega, rfl⟩
  case round =>
    obtain ⟨k, hk, rfl⟩ := hrel
    by_cases hlt : k < n
    · have hck := unhide HXC k (by omega)
      clear hmk1 hmk2
      go_wp2
      go_round
      case rel => exact ⟨k + 1, by omega, by go_num⟩
      case measure => simp [intOf]; omega
    · have hkz : n = k := by omega
      subst hkz
      go_wp2
      refine wp_loop_rounds 1 ?_
      rw [rounds_succ]
      go_wp2
      clear hmk1 hmk2
      go_loopw [83] (fun i wr => ∃ k : Nat, k ≤ n ∧ i = .int .i64 k ∧ wr.rowIs (w.heap.size + 1) 5 n (fun j => bv (if j < k then 49 else 0)) ∧ Below w.heap.size w wr) (fun i _ => n - (intOf i).toNat)
      case atStart => exact ⟨0, by omega, rfl, unhide HROW, unhide HBEL⟩
      case round =>
        obtain ⟨k, hk2, rfl, hrw, hb⟩ := hrel
        clear HROW HBEL
        by_cases hkz : k < n
        · have h2 : ∃ v, wr.cell? ⟨w.heap.size + 1, k, none⟩ = some v := ⟨_, hrw.cell (by omega)⟩
          obtain ⟨v2, h2⟩ := h2
          have h3 := hrw.frozen k
          have HN := hide (ones_step hrw)
          have HBN := hide hb
          clear hrw hb
          go_wp2
          go_roundw
          case rel => exact ⟨k + 1, by omega, by go_num, unhide HN, (unhide HBN).setCell (by simp) _⟩
          case measure => simp [intOf]; omega
        · have hke : n = k := by omega
          subst hke
          have hcv := conv_row (F := fun j => if j < n then 49 else 0) hrw
          rw [ones_list] at hcv
          have HBN := hide hb
          clear hrw hb
          go_wp2
          refine wp_loop_rounds 1 ?_
          rw [rounds_succ]
          go_wp2
          go_ret
          exact ⟨n, [], unhide HE, rfl, unhide HBN⟩

set_option maxHeartbeats 1000000 in
theorem enc_nil (z : Nat → Nat) (w : World) : Calls Try.prog 8 #[.slice none 0 0] w fun e w' => EncP w 0 z e w' := by
  have HE := hide (enc_zeros 0 z (fun i hi => by omega))
  have hmk := fun w => make_cap 1 (by omega) (by omega) w
  have hmk1 : ∀ w : World, (Instr.makeSlice 22 (.int .i64 0) (.int .i64 1)).run Try.prog w = .ok (.slice (some ⟨w.heap.size, 0, none⟩) 0 1) (w.alloc (.cells (madeCells #[.int .u8 0] 1) 5)) := hmk
  have hmk2 : ∀ w : World, (Instr.makeSlice 22 (.int .i64 0) (.int .i64 0)).run Try.prog w = .ok (.slice (some ⟨w.heap.size, 0, none⟩) 0 0) (w.alloc (.cells (madeCells #[.int .u8 0] 0) 5)) := fun w => make_full 0 0 rfl (by omega) w
  have hbel : Below w.heap.size w ((w.alloc (.cells (madeCells #[.int .u8 0] 1) 5)).alloc (.cells (madeCells #[.int .u8 0] 0) 5)) := ((Below.refl _ _).alloc (Nat.le_refl _) _).alloc (by simp) _
  have hcv : ∀ wx : World, ∀ g, wx.rowIs g 5 0 (fun j => bv 0) → (convert 22 9 (.slice (some ⟨g, 0, none⟩) 0 0)).run Try.prog wx = .ok (.string (strOf (encL 0 []))) wx := fun wx g h => by
    have := conv_row (F := fun _ => 0) h
    exact this
  have hrow : ((w.alloc (.cells (madeCells #[.int .u8 0] 1) 5)).alloc (.cells (madeCells #[.int .u8 0] 0) 5)).rowIs (w.heap.size + 1) 5 0 (fun j => bv 0) := by
    have := World.rowIs_made (w.alloc (.cells (madeCells #[.int .u8 0] 1) 5)) (.int .u8 0) 0 5
    rw [World.size_alloc] at this
    exact this.congr (fun i hi => by omega)
  have hcv2 := hcv _ _ hrow
  have HB := hide hbel
  clear hcv hrow hbel hmk
  go_enter Try.func8, Try.ntmps8
  go_wp2
  refine wp_loop_rounds 1 ?_
  rw [rounds_succ]
  go_wp2
  refine wp_loop_rounds 1 ?_
  rw [rounds_succ]
  go_wp2
  refine wp_loop_rounds 1 ?_
  rw [rounds_succ]
  go_wp2
  refine wp_loop_rounds 1 ?_
  rw [rounds_succ]
  go_wp2
  go_ret
  exact ⟨0, [], unhide HE, rfl, unhide HB⟩

theorem enc_any (a : Option Addr) (n : Nat) (z : Nat → Nat) (w : World) (hn : n ≤ 4096) (hx : LX w a n z) (hz : ∀ i, i < n → z i < 256) :
    Calls Try.prog 8 #[.slice a n n] w fun e w' => EncP w n z e w' := by
  cases a with
  | none => obtain rfl := hx.1 rfl; exact enc_nil z w
  | some x =>
    obtain ⟨zc, hl⟩ := lead_exists n z
    by_cases h : zc < n
    · exact enc_some x n zc z w hn hx hz hl h
    · have : zc = n := by have := hl.le; omega
      subst this
      exact enc_all x zc z w hn hx hl.zero
end Go.Proofs.Qxb6601650a
