/-
  zzModelBase58: its walk.
-/
import Derived.Test.Qxb6601650aEnc2
namespace Go.Proofs.Qxb6601650a
open Go.RowKit
set_option linter.unusedVariables false

theorem push_math {rs : List Nat} {V X : Nat} (h4 : val 58 rs + 58 ^ rs.length * V = X) (hc : 0 < V) :
    val 58 (rs ++ [V % 58]) + 58 ^ (rs ++ [V % 58]).length * (V / 58) = X ∧ (V / 58 = 0 → Norm 58 (rs ++ [V % 58])) := by
  constructor
  · rw [val_snoc, List.length_append, List.length_singleton, Nat.pow_succ, Nat.add_assoc, Nat.mul_assoc, ← Nat.mul_add, Nat.mod_add_div]
    exact h4
  · intro h0
    right
    have e : V % 58 = V := Nat.mod_eq_of_lt (by omega)
    rw [val_snoc, List.length_append, List.length_singleton, Nat.add_sub_cancel, e]
    have hm : 58 ^ rs.length * 1 ≤ 58 ^ rs.length * V := Nat.mul_le_mul_left _ hc
    omega

theorem be_zero (b : Nat) (F : Nat → Nat) (k : Nat) (h : ∀ j, j < k → F j = 0) : be b F 0 k = 0 := by
  induction k with
  | zero => rfl
  | succ k ih => rw [be_succ, ih (fun j hj => h j (by omega)), Nat.zero_add, h k (by omega)]; omega
theorem be_pos (b : Nat) (hb : 0 < b) (F : Nat → Nat) (k st : Nat) (h : st < k) (hF : F st ≠ 0) : 0 < be b F 0 k := by
  induction k with
  | zero => omega
  | succ k ih =>
    rw [be_succ, Nat.zero_add]
    by_cases e : st = k
    · subst e; omega
    · have := Nat.mul_pos (ih (by omega)) hb
      omega
theorem be_congr (b : Nat) (F G : Nat → Nat) (s t k : Nat) (h : ∀ j, j < k → F (s + j) = G (t + j)) : be b F s k = be b G t k := by
  induction k with
  | zero => rfl
  | succ k ih => rw [be_succ, be_succ, ih (fun j hj => h j (by omega)), h k (by omega)]

/-- The long division, i bytes done: the row now, the remainder r. -/
structure DivR (N m st : Nat) (F : Nat → Nat) (i r : Nat) (wr : World) (F' : Nat → Nat) : Prop where
  row : wr.rowIs N 5 m (fun j => bv (F' j))
  rest : ∀ j, i ≤ j → F' j = F j
  byte : ∀ j, j < m → F' j < 256
  low : ∀ j, j < st → F' j = 0
  rem : r < 58
  eq : be 256 F' 0 i * 58 + r = be 256 F 0 i

theorem DivR.step {N m st i r : Nat} {F F' : Nat → Nat} {wr : World} (h : DivR N m st F i r wr F') (hi : i < m) (hst : st ≤ i) (hF : F i < 256) :
    DivR N m st F (i + 1) ((r * 256 + F i) % 58) (wr.setCell ⟨N, i, none⟩ (bv ((r * 256 + F i) / 58))) (fun j => if j = i then (r * 256 + F i) / 58 else F' j) := by
  have hr := h.rem
  refine ⟨(h.row.set i _).congr fun j hj => ?_, fun j hj => ?_, fun j hj => ?_, fun j hj => ?_, Nat.mod_lt _ (by decide), ?_⟩
  · split <;> rfl
  · rw [if_neg (by omega)]; exact h.rest j (by omega)
  · split
    · omega
    · exact h.byte j hj
  · rw [if_neg (by omega)]; exact h.low j hj
  · rw [be_succ, be_succ]
    have e1 : be 256 (fun j => if j = i then (r * 256 + F i) / 58 else F' j) 0 i = be 256 F' 0 i := be_congr _ _ _ _ _ _ (fun j hj => by rw [if_neg (by omega)])
    rw [e1]
    simp only [Nat.zero_add, if_true]
    have := h.eq
    rw [← this]
    omega

/-- The division loop, t digits found. -/
structure LoopR (w : World) (m X : Nat) (v : Value) (st t : Nat) (wr : World) (F : Nat → Nat) (rs : List Nat) : Prop where
  row : wr.rowIs w.heap.size 5 m (fun j => bv (F j))
  byte : ∀ j, j < m → F j < 256
  lead : Lead m F st
  own : Own wr (w.heap.size + 1) v (rs.map alpha)
  shape : ∃ g c, v = .slice (some ⟨g, 0, none⟩) rs.length c
  dig : ∀ d ∈ rs, d < 58
  len : rs.length = t
  sum : val 58 rs + 58 ^ rs.length * be 256 F 0 m = X
  norm : be 256 F 0 m = 0 → Norm 58 rs
  bel : Below w.heap.size w wr

theorem LoopR.bound {w wr : World} {m X st t : Nat} {v : Value} {F : Nat → Nat} {rs : List Nat} (h : LoopR w m X v st t wr F rs) (hX : X < 256 ^ m) : t ≤ 2 * m ∧ (st < m → 0 < be 256 F 0 m) ∧ (¬ st < m → be 256 F 0 m = 0) := by
  have hp := pow_bound m
  have a2 : st < m → 0 < be 256 F 0 m := fun hs => be_pos 256 (by decide) F m st hs (h.lead.stop hs)
  have a3 : ¬ st < m → be 256 F 0 m = 0 := fun hs => be_zero 256 F m (fun j hj => h.lead.zero j (by have := h.lead.le; omega))
  refine ⟨?_, a2, a3⟩
  rw [← h.len]
  by_cases hs : st < m
  · have hm : 58 ^ rs.length * 1 ≤ 58 ^ rs.length * be 256 F 0 m := Nat.mul_le_mul_left _ (a2 hs)
    have hs2 := h.sum
    have := pow_lt_of (b := 58) (i := rs.length) (j := 2 * m) (by decide) (by omega)
    omega
  · have hs2 := h.sum
    rw [a3 hs, Nat.mul_zero, Nat.add_zero] at hs2
    exact digits_le rs m (h.norm (a3 hs)) (by omega)

theorem Own.later {w w' : World} {B B' : Nat} {v : Value} {xs : List Nat} (h : Own w B v xs) (hb : ∀ k, B ≤ k → k < w.heap.size → w'.heap[k]? = w.heap[k]?) : Own w' B v xs := by
  obtain ⟨h1, h2⟩ := h
  refine ⟨h1, ?_⟩
  rcases h2 with h2 | ⟨g, cap, cur, hv, hbg, hg, rest⟩
  · exact .inl h2
  · exact .inr ⟨g, cap, cur, hv, hbg, by rw [hb g hbg (Array.getElem?_eq_some_iff.1 hg).1]; exact hg, rest⟩
theorem Own.setBelow {w : World} {B : Nat} {v : Value} {xs : List Nat} (h : Own w B v xs) {a : Addr} (ha : a.block < B) (u : Value) : Own (w.setCell a u) B v xs := ownsRow_setCell_below h ha u

theorem bytes_step {w : World} {b n k zc : Nat} {z : Nat → Nat} (h : w.rowIs b 5 n (fun j => bv (if j < k then z (zc + j) else 0))) : (w.setCell ⟨b, k, none⟩ (.int .u8 ((z (zc + k) : Nat) : Int))).rowIs b 5 n (fun j => bv (if j < k + 1 then z (zc + j) else 0)) := by
  refine (h.set k _).congr fun j hj => ?_
  by_cases e : j = k
  · subst e; simp [bv]
  · by_cases h2 : j < k
    · simp [e, h2, show j < k + 1 by omega]
    · simp [e, h2, show ¬ j < k + 1 by omega]

/-- The text: the digits laid from the front. -/
def mtF (zc : Nat) (ds : List Nat) (k j : Nat) : Nat := if j < zc then 49 else if j < zc + k then alpha (ds.getD (ds.length - 1 - (j - zc)) 0) else 0
theorem mt_start {w : World} {b zc : Nat} {ds : List Nat} (h : w.rowIs b 5 (zc + ds.length) (fun j => bv (if j < zc then 49 else 0))) : w.rowIs b 5 (zc + ds.length) (fun j => bv (mtF zc ds 0 j)) := by
  refine h.congr fun j hj => ?_
  unfold mtF
  by_cases h1 : j < zc
  · rw [if_pos h1, if_pos h1]
  · rw [if_neg h1, if_neg h1, if_neg (by omega)]
theorem mt_step {w : World} {b zc k : Nat} {ds : List Nat} (h : w.rowIs b 5 (zc + ds.length) (fun j => bv (mtF zc ds k j))) (hk : k < ds.length) :
    (w.setCell ⟨b, zc + k, none⟩ (.int .u8 ((alpha (ds.getD (ds.length - 1 - k) 0) : Nat) : Int))).rowIs b 5 (zc + ds.length) (fun j => bv (mtF zc ds (k + 1) j)) := by
  refine (h.set _ _).congr fun j hj => ?_
  unfold mtF
  by_cases e : j = zc + k
  · rw [if_pos e, if_neg (by omega), if_pos (by omega), e, Nat.add_sub_cancel_left]
    rfl
  · rw [if_neg e]
    by_cases h1 : j < zc
    · rw [if_pos h1, if_pos h1]
    · rw [if_neg h1, if_neg h1]
      by_cases h2 : j < zc + k
      · rw [if_pos h2, if_pos (by omega)]
      · rw [if_neg h2, if_neg (by omega)]
theorem mt_done {w : World} {b zc : Nat} {ds : List Nat} (h : w.rowIs b 5 (zc + ds.length) (fun j => bv (mtF zc ds ds.length j))) : w.rowIs b 5 (zc + ds.length) (fun j => bv (encF zc ds j)) := by
  refine h.congr fun j hj => ?_
  unfold mtF encF
  by_cases h1 : j < zc
  · rw [if_pos h1, if_pos h1]
  · rw [if_neg h1, if_neg h1, if_pos (by omega), show ds.length - 1 - (j - zc) = zc + ds.length - 1 - j by omega]

set_option maxHeartbeats 4000000 in
set_option maxRecDepth 100000 in
theorem mod_some (x : Addr) (n zc : Nat) (z : Nat → Nat) (w : World) (hn : n ≤ 4096) (hx : LX w (some x) n z) (hz : ∀ i, i < n → z i < 256) (hl : Lead n z zc) (hzn : zc < n) :
    Calls Try.prog 9 #[.slice (some x) n n] w fun e w' => EncP w n z e w' := by
  have HL := hide hl
  have HZ := hide hz
  have hzn0 := hl.le
  have hxc : ∀ j, j < n → w.cell? (x.add j) = some (.int .u8 (z j : Nat)) := hx.2 x rfl
  have HXC := hide hxc
  obtain ⟨m, hm⟩ : ∃ m, n - zc = m := ⟨_, rfl⟩
  have hmk1 := fun w => make_full ((n : Int) - zc) m (by omega) (by omega) w
  have hmk2 := fun w => make_cap (2 * (m : Int) + 1) (by omega) (by omega) w
  obtain ⟨cp, hcp⟩ : ∃ cp, (2 * (m : Int) + 1).toNat = cp := ⟨_, rfl⟩
  rw [hcp] at hmk2
  have hcpb : cp ≤ 99999 := by omega
  have HM := hide hm
  have hmb : zc + m = n := by omega
  have hmb1 : zc + m ≤ n := by omega
  have hmb2 : n ≤ zc + m := by omega
  have HROW0 : Hid ((w.alloc (.cells (madeCells #[.int .u8 0] m) 5)).rowIs w.heap.size 5 m (fun j => bv (if j < 0 then z (zc + j) else 0))) := (World.rowIs_made w (.int .u8 0) m 5).congr (fun i hi => by simp [bv])
  have HBEL0 : Hid (Below w.heap.size w (w.alloc (.cells (madeCells #[.int .u8 0] m) 5))) := (Below.refl _ _).alloc (Nat.le_refl _) _
  clear hx hl hz hxc hcp hm hmb
  go_enter Try.func9, Try.ntmps9
  go_wp2
  go_loop [3] (fun i => ∃ k : Nat, k ≤ zc ∧ i = .int .i64 k) (fun i => zc - (intOf i).toNat)
  case atStart => exact ⟨0, by omega, rfl⟩
  case round =>
    obtain ⟨k, hk, rfl⟩ := hrel
    by_cases hlt : k < zc
    · have hck := unhide HXC k (by omega)
      rw [(unhide HL).zero k hlt] at hck
      clear hmk1 hmk2
      go_wp2
      go_round
      case rel => exact ⟨k + 1, by omega, by go_num⟩
      case measure => simp [intOf]; omega
    · have hkz : zc = k := by omega
      subst hkz
      have hck := unhide HXC zc (by omega)
      have hz0 : ((z zc : Int) == 0) = false := by rw [beq_eq_false_iff_ne]; have := (unhide HL).stop hzn; omega
      go_wp2
      go_loopw [5] (fun i wr => ∃ k : Nat, k ≤ m ∧ i = .int .i64 k ∧ wr.rowIs w.heap.size 5 m (fun j => bv (if j < k then z (zc + j) else 0)) ∧ Below w.heap.size w wr) (fun i _ => m - (intOf i).toNat)
      case atStart => exact ⟨0, by omega, rfl, unhide HROW0, unhide HBEL0⟩
      case round =>
        rename World => w1
        obtain ⟨k, hk2, rfl, hrw, hb⟩ := hrel
        clear HROW0 HBEL0 hmk1
        by_cases hkm : k < m
        · have hck := cell_later hb (unhide HXC (zc + k) (by omega))
          obtain ⟨v2, h2⟩ : ∃ v, w1.cell? ⟨w.heap.size, k, none⟩ = some v := ⟨_, hrw.cell (by omega)⟩
          have h3 := hrw.frozen k
          have HN := hide (bytes_step hrw)
          have HBN := hide hb
          clear hrw hb hmk2
          go_wp2
          go_roundw
          case rel => exact ⟨k + 1, by omega, by go_num, unhide HN, (unhide HBN).setCell (Nat.le_refl _) _⟩
          case measure => simp [intOf]; omega
        · have hkm2 : k = m := by omega
          subst hkm2
          have HLOOP : Hid (LoopR w k (be 256 z zc k) (.slice (some ⟨w1.heap.size, 0, none⟩) 0 cp) 0 0 (w1.alloc (.cells (madeCells #[.int .u8 0] cp) 5)) (fun j => if j < k then z (zc + j) else 0) []) := by
            have hw1 := hrw.lt
            refine ⟨hrw.alloc _, fun j hj => ?_, ⟨by omega, fun j hj => by omega, fun h0 => ?_⟩, ?_, ⟨_, _, rfl⟩, fun d hd => (by cases hd), rfl, ?_, fun _ => .inl rfl, hb.alloc hb.size _⟩
            · rw [if_pos hj]; exact unhide HZ (zc + j) (by omega)
            · rw [if_pos h0, Nat.add_zero]; exact (unhide HL).stop (by omega)
            · have := own_made w1 cp (by unfold maxLen; omega)
              obtain ⟨q1, q2⟩ := this
              refine ⟨q1, ?_⟩
              rcases q2 with q2 | ⟨gg, cc, cu, e1, e2, rst⟩
              · exact .inl q2
              · exact .inr ⟨gg, cc, cu, e1, by omega, rst⟩
            · rw [val, List.length_nil, Nat.pow_zero, Nat.one_mul, Nat.zero_add]
              exact be_congr _ _ _ _ _ _ (fun j hj => by rw [Nat.zero_add, if_pos hj])
          have HX : Hid (be 256 z zc k < 256 ^ k) := be_lt 256 z zc k (fun i hi => unhide HZ (zc + i) (by omega))
          clear hrw hb
          go_wp2
          clear hmk2
          go_loopw [6, 7, 8] (fun v stv tv wr => ∃ (st t : Nat) (F : Nat → Nat) (rs : List Nat), stv = .int .i64 st ∧ tv = .int .i64 t ∧ LoopR w k (be 256 z zc k) v st t wr F rs) (fun _ _ tv _ => 2 * k + 1 - (intOf tv).toNat)
          case atStart => exact ⟨0, 0, _, _, rfl, rfl, unhide HLOOP⟩
          case round =>
            rename World => w2
            obtain ⟨st, t, F, rs, rfl, rfl, hlr⟩ := hrel
            clear HLOOP
            obtain ⟨ht2, hpos, hzero⟩ := hlr.bound (unhide HX)
            have hstk := hlr.lead.le
            by_cases hst : st < k
            · have hV := hpos hst
              have HLR := hide hlr
              have HDIV : Hid (DivR w.heap.size k st F st 0 w2 F) := ⟨hlr.row, fun _ _ => rfl, hlr.byte, hlr.lead.zero, by decide, by rw [be_zero 256 F st hlr.lead.zero]⟩
              have HOWN := hide hlr.own
              have HBEL := hide hlr.bel
              have HBYTE := hide hlr.byte
              have hnsz : w.heap.size < w2.heap.size := hlr.row.lt
              clear hlr hpos hzero
              go_wp2
              go_loopw [9, 10] (fun remv iv wi => ∃ (i r : Nat) (F' : Nat → Nat), st ≤ i ∧ i ≤ k ∧ iv = .int .i64 i ∧ remv = .int .i64 r ∧ r < 58 ∧ DivR w.heap.size k st F i r wi F' ∧ Own wi (w.heap.size + 1) u6 (rs.map alpha) ∧ Below w.heap.size w wi) (fun _ iv _ => k - (intOf iv).toNat)
              case atStart => exact ⟨st, 0, F, by omega, by omega, rfl, rfl, by omega, unhide HDIV, unhide HOWN, unhide HBEL⟩
              case round =>
                rename World => wi
                obtain ⟨i, r, F', hi1, hi2, rfl, rfl, hr, hdiv, hown, hbel⟩ := hrel
                clear HDIV HOWN HBEL
                by_cases hik : i < k
                · have hF := unhide HBYTE i hik
                  have hci := hdiv.row.cell hik
                  have hfi := hdiv.row.frozen i
                  rw [hdiv.rest i (Nat.le_refl _)] at hci
                  unfold bv at hci
                  have hst3 := hdiv.step hik hi1 hF
                  obtain ⟨f, hf⟩ : ∃ f, F i = f := ⟨_, rfl⟩
                  rw [hf] at hci hF hst3
                  have e1 : (((r * 256 + f) / 58 : Nat) : Int) = ((r : Int) * 256 + (f : Int)) / 58 := by omega
                  have HOW := hide (hown.setBelow (a := ⟨w.heap.size, i, none⟩) (by show w.heap.size < w.heap.size + 1; omega) (.int .u8 (((r : Int) * 256 + (f : Int)) / 58)))
                  have HBE := hide (hbel.setCell (p := ⟨w.heap.size, i, none⟩) (Nat.le_refl _) (.int .u8 (((r : Int) * 256 + (f : Int)) / 58)))
                  have hw3 : wi.setCell ⟨w.heap.size, i, none⟩ (bv ((r * 256 + f) / 58)) = wi.setCell ⟨w.heap.size, i, none⟩ (.int .u8 (((r : Int) * 256 + (f : Int)) / 58)) := by unfold bv; rw [e1]
                  rw [hw3] at hst3
                  have HST3 := hide hst3
                  clear hst3 hdiv hown hbel hf e1 hw3
                  go_wp2
                  go_roundw
                  case rel => exact ⟨i + 1, (r * 256 + f) % 58, _, by omega, by omega, by go_num, by go_num, by omega, unhide HST3, unhide HOW, unhide HBE⟩
                  case measure => simp [intOf]; omega
                · have hik2 : i = k := by omega
                  subst hik2
                  have hV2 := hdiv.eq
                  obtain ⟨V, hVV⟩ : ∃ V, be 256 F 0 i = V := ⟨_, rfl⟩
                  rw [hVV] at hV2 hV
                  have hq : be 256 F' 0 i = V / 58 := by omega
                  have hrV : r = V % 58 := by omega
                  have hpm := push_math (rs := rs) (V := V) (X := be 256 z zc i) (by rw [← hVV]; exact (unhide HLR).sum) hV
                  rw [← hrV] at hpm
                  have HPM := hide hpm
                  have HQ := hide hq
                  obtain ⟨st2, hl2⟩ := lead_exists i F'
                  have hst2 : st ≤ st2 := by
                    by_cases h : st2 < st
                    · exact absurd (hdiv.low st2 h) (hl2.stop (by omega))
                    · omega
                  have HL2 := hide hl2
                  have hst2k := hl2.le
                  have HROW := hide hdiv.row
                  have HBY := hide hdiv.byte
                  have HBELi := hide hbel
                  have HOWi := hide hown
                  have hszi : w.heap.size + 1 ≤ wi.heap.size := hdiv.row.lt
                  have hal := alpha_at r hr
                  have hlen : (rs.map alpha).length ≤ 9999999 := by rw [List.length_map, (unhide HLR).len]; omega
                  obtain ⟨ys, hys⟩ : ∃ ys, rs.map alpha = ys := ⟨_, rfl⟩
                  rw [hys] at HOWi hlen
                  have HYS := hide hys
                  clear hdiv hown hbel hV2 hVV hq hrV hpm hl2 hys hV
                  go_wp2_with (at_builtin; refine wpList_app_one (by rfl) _ _ (by rfl) (w.heap.size + 1) _ ys (alpha r) _ wi (by rfl) (by rfl) HOWi hszi hlen (by rfl) ?_)
                  intro v' w3 R1 R2
                  have HROW3 := hide ((unhide HROW).of_block ((unhide R2).block _ (Nat.lt_succ_self _)))
                  have HNEW : Hid (LoopR w i (be 256 z zc i) v' st2 (t + 1) w3 F' (rs ++ [r])) := by
                    have ho : Own w3 (w.heap.size + 1) v' ((rs ++ [r]).map alpha) := by
                      rw [List.map_append, unhide HYS]; exact unhide R1
                    refine ⟨unhide HROW3, unhide HBY, unhide HL2, ho, ?_, ?_, ?_, (unhide HPM).1 ▸ ?_, ?_, (unhide HBELi).trans ((unhide R2).mono (Nat.le_succ _))⟩
                    · rcases ho.shape with ⟨_, hn⟩ | ⟨g, c, h, _⟩
                      · simp at hn
                      · exact ⟨g, c, by rw [h, List.length_map]⟩
                    · intro d hd
                      rcases List.mem_append.1 hd with h | h
                      · exact (unhide HLR).dig d h
                      · simp at h; rw [h]; exact hr
                    · rw [List.length_append, (unhide HLR).len]; rfl
                    · rw [unhide HQ]
                    · rw [unhide HQ]; exact (unhide HPM).2
                  have HCE : Hid (∀ j, j < i → w3.cell? ⟨w.heap.size, j, none⟩ = some (.int .u8 ((F' j : Nat) : Int))) := fun j hj => (unhide HROW3).cell hj
                  clear hal
                  go_wp2
                  go_loop [7] (fun sv => ∃ s : Nat, st ≤ s ∧ s ≤ st2 ∧ sv = .int .i64 s) (fun sv => st2 - (intOf sv).toNat)
                  case atStart => exact ⟨st, by omega, by omega, rfl⟩
                  case round =>
                    obtain ⟨s, hs1, hs2, rfl⟩ := hrel
                    by_cases hss : s < st2
                    · have hcs := unhide HCE s (by omega)
                      rw [(unhide HL2).zero s hss] at hcs
                      go_wp2
                      go_round
                      case rel => exact ⟨s + 1, by omega, by omega, by go_num⟩
                      case measure => simp [intOf]; omega
                    · have hse : st2 = s := by omega
                      subst hse
                      by_cases hsi : st2 < i
                      · have hcs := unhide HCE st2 hsi
                        have hz2 : ((F' st2 : Int) == 0) = false := by rw [beq_eq_false_iff_ne]; have := (unhide HL2).stop hsi; omega
                        go_wp2
                        go_roundw
                        case rel => exact ⟨st2, t + 1, F', rs ++ [r], rfl, by go_num, unhide HNEW⟩
                        case measure => simp [intOf]; omega
                      · go_wp2
                        go_roundw
                        case rel => exact ⟨st2, t + 1, F', rs ++ [r], rfl, by go_num, unhide HNEW⟩
                        case measure => simp [intOf]; omega
            · have hV0 := hzero hst
              have hsum := hlr.sum
              rw [hV0, Nat.mul_zero, Nat.add_zero] at hsum
              have HENC : Hid (Enc n z zc rs) := ⟨unhide HL, hlr.dig, hlr.norm hV0, by rw [hsum, unhide HM]⟩
              obtain ⟨g, cg, hsh⟩ := hlr.shape
              have hown := hlr.own
              subst hsh
              have hlen := hlr.len
              have HRC : Hid (∀ j, j < rs.length → w2.cell? ⟨g, j, none⟩ = some (.int .u8 ((alpha (rs.getD j 0) : Nat) : Int))) := fun j hj => by
                have h1 : Own w2 (w.heap.size + 1) (.slice (some ⟨g, 0, none⟩) (rs.map alpha).length cg) (rs.map alpha) := by rw [List.length_map]; exact hown
                have := h1.cell j (by rw [List.length_map]; exact hj)
                rw [this, List.getElem_map, List.getD_eq_getElem?_getD, List.getElem?_eq_getElem hj]
                rfl
              have hmk3 := fun w => make_full ((zc : Int) + (rs.length : Int)) (zc + rs.length) (by omega) (by omega) w
              have HROW6 : Hid ((w2.alloc (.cells (madeCells #[.int .u8 0] (zc + rs.length)) 5)).rowIs w2.heap.size 5 (zc + rs.length) (fun j => bv (if j < 0 then 49 else 0))) := (World.rowIs_made w2 (.int .u8 0) (zc + rs.length) 5).congr (fun i hi => by simp [bv])
              have HBEL6 : Hid (Below w2.heap.size w2 (w2.alloc (.cells (madeCells #[.int .u8 0] (zc + rs.length)) 5))) := (Below.refl _ _).alloc (Nat.le_refl _) _
              have HB := hide hlr.bel
              have hwsz : w.heap.size ≤ w2.heap.size := hlr.bel.size
              have hrl : rs.length ≤ 2 * k := by omega
              clear hlr hown hV0 hsum hpos hzero hlen
              go_wp2
              clear hmk3
              go_loopw [13] (fun i wr => ∃ q : Nat, q ≤ zc ∧ i = .int .i64 q ∧ wr.rowIs w2.heap.size 5 (zc + rs.length) (fun j => bv (if j < q then 49 else 0)) ∧ Below w2.heap.size w2 wr) (fun i _ => zc - (intOf i).toNat)
              case atStart => exact ⟨0, by omega, rfl, unhide HROW6, unhide HBEL6⟩
              case round =>
                rename World => wr
                obtain ⟨q, hq2, rfl, hrw, hb⟩ := hrel
                clear HROW6 HBEL6
                by_cases hqz : q < zc
                · obtain ⟨v2, h2⟩ : ∃ v, wr.cell? ⟨w2.heap.size, q, none⟩ = some v := ⟨_, hrw.cell (by omega)⟩
                  have h3 := hrw.frozen q
                  have HN := hide (ones_step hrw)
                  have HBN := hide hb
                  clear hrw hb
                  go_wp2
                  go_roundw
                  case rel => exact ⟨q + 1, by omega, by go_num, unhide HN, (unhide HBN).setCell (Nat.le_refl _) _⟩
                  case measure => simp [intOf]; omega
                · have hqe : q = zc := by omega
                  subst hqe
                  have HST := hide (mt_start hrw)
                  have HBN := hide hb
                  clear hrw hb
                  go_wp2
                  go_loopw [14] (fun i wr => ∃ p : Nat, p ≤ rs.length ∧ i = .int .i64 p ∧ wr.rowIs w2.heap.size 5 (q + rs.length) (fun j => bv (mtF q rs p j)) ∧ Below w2.heap.size w2 wr) (fun i _ => rs.length - (intOf i).toNat)
                  case atStart => exact ⟨0, by omega, rfl, unhide HST, unhide HBN⟩
                  case round =>
                    rename World => wt
                    obtain ⟨p, hp, rfl, hrw, hb⟩ := hrel
                    clear HST HBN
                    by_cases hpl : p < rs.length
                    · have hcd := cell_later hb (unhide HRC (rs.length - 1 - p) (by omega))
                      obtain ⟨v2, h2⟩ : ∃ v, wt.cell? ⟨w2.heap.size, q + p, none⟩ = some v := ⟨_, hrw.cell (by omega)⟩
                      have h3 := hrw.frozen (q + p)
                      have hts := mt_step hrw hpl
                      obtain ⟨d, hd⟩ : ∃ d, alpha (rs.getD (rs.length - 1 - p) 0) = d := ⟨_, rfl⟩
                      rw [hd] at hcd hts
                      have HN := hide hts
                      have HBN := hide hb
                      clear hrw hb hts hd
                      go_wp2
                      go_roundw
                      case rel => exact ⟨p + 1, by omega, by go_num, unhide HN, (unhide HBN).setCell (Nat.le_refl _) _⟩
                      case measure => simp [intOf]; omega
                    · have hpe : p = rs.length := by omega
                      subst hpe
                      have hcv := conv_row (mt_done hrw)
                      rw [encF_list] at hcv
                      have HBF : Hid (Below w.heap.size w wt) := (unhide HB).trans (hb.mono hwsz)
                      clear hrw hb
                      go_wp2
                      go_ret
                      exact ⟨q, rs, unhide HENC, rfl, unhide HBF⟩

end Go.Proofs.Qxb6601650a
