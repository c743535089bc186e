/-
  EncodeBase58: its walk.
-/
import Derived.Test.Qxb6601650aKit
import Derived.Deep.Slices
namespace Go.Proofs.Qxb6601650a
open Go.RowKit
set_option linter.unusedVariables false

def alphaL : List Nat := [49, 50, 51, 52, 53, 54, 55, 56, 57, 65, 66, 67, 68, 69, 70, 71, 72, 74, 75, 76, 77, 78, 80, 81, 82, 83, 84, 85, 86, 87, 88, 89, 90, 97, 98, 99, 100, 101, 102, 103, 104, 105, 106, 107, 109, 110, 111, 112, 113, 114, 115, 116, 117, 118, 119, 120, 121, 122]
def alpha (d : Nat) : Nat := alphaL.getD d 0

/-- Leading zero bytes. -/
structure Lead (n : Nat) (z : Nat → Nat) (zc : Nat) : Prop where
  le : zc ≤ n
  zero : ∀ j, j < zc → z j = 0
  stop : zc < n → z zc ≠ 0
theorem lead_exists (n : Nat) (z : Nat → Nat) : ∃ zc, Lead n z zc := by
  induction n with
  | zero => exact ⟨0, Nat.le_refl _, fun j hj => by omega, fun h => by omega⟩
  | succ n ih =>
    obtain ⟨zc, h1, h2, h3⟩ := ih
    by_cases e : zc < n
    · exact ⟨zc, by omega, h2, fun _ => h3 e⟩
    · have : zc = n := by omega
      subst this
      by_cases h0 : z zc = 0
      · exact ⟨zc + 1, by omega, fun j hj => by by_cases e2 : j = zc; { rw [e2]; exact h0 }; { exact h2 j (by omega) }, fun h => by omega⟩
      · exact ⟨zc, by omega, h2, fun _ => h0⟩

/-- The digits that the encoder holds after j bytes. -/
def OutR (w : World) (z : Nat → Nat) (zc j : Nat) (v : Value) (wr : World) : Prop :=
  ∃ ds g cp, v = .slice (some ⟨g, 0, none⟩) ds.length cp ∧ Own wr w.heap.size v ds ∧ (∀ d ∈ ds, d < 58) ∧ Norm 58 ds ∧ val 58 ds = be 256 z zc j ∧ Below w.heap.size w wr

theorem make_cap (C : Int) (h0 : 0 ≤ C) (h1 : C ≤ 99999999) (w : World) : (Instr.makeSlice 22 (.int .i64 0) (.int .i64 C)).run Try.prog w = .ok (.slice (some ⟨w.heap.size, 0, none⟩) 0 C.toNat) (w.alloc (.cells (madeCells #[.int .u8 0] C.toNat) 5)) := by
  obtain ⟨i0, hi, hz0, hz1, hz2⟩ := info_parts info5
  have hr := run_make (P := Try.prog) w 22 5 i0 _ Try.underlying22 hi hz0 .i64 .i64 0 C (by omega) h0 (by rw [hz2]; omega) (by omega)
  simp only [hz1, Nat.mul_one] at hr
  exact hr
theorem make_full (C : Int) (n : Nat) (hC : C = (n : Int)) (h1 : n ≤ 99999999) (w : World) : (Instr.makeSlice 22 (.int .i64 C) (.int .i64 C)).run Try.prog w = .ok (.slice (some ⟨w.heap.size, 0, none⟩) n n) (w.alloc (.cells (madeCells #[.int .u8 0] n) 5)) := by
  subst hC
  exact run_make_row' (P := Try.prog) 22 5 (.int .u8 0) 1 Try.underlying22 info5 rfl .i64 .i64 n (by omega) (by omega) w

theorem own_made (w : World) (cp : Nat) (hm : cp ≤ maxLen) : Own (w.alloc (.cells (madeCells #[.int .u8 0] cp) 5)) w.heap.size (.slice (some ⟨w.heap.size, 0, none⟩) 0 cp) [] :=
  World.ownsRow_made w _ cp (Nat.le_refl _) hm (by rw [size_madeCells, Nat.mul_one])

/-- The inner loop: i digits done, the carry cy. -/
def InR (w : World) (ds : List Nat) (c : Nat) (v : Value) (i cy : Nat) (wi : World) : Prop :=
  ∃ l : List Nat, l.length = ds.length ∧ l.drop i = ds.drop i ∧ (∀ d ∈ l.take i, d < 58) ∧ val 58 (l.take i) + 58 ^ i * cy = c + 256 * val 58 (ds.take i) ∧ Own wi w.heap.size v l ∧ Below w.heap.size w wi

theorem InR.step {w wi : World} {ds : List Nat} {c g cp i cy : Nat} (h : InR w ds c (.slice (some ⟨g, 0, none⟩) ds.length cp) i cy wi) (hi : i < ds.length) (hg : w.heap.size ≤ g) :
    InR w ds c (.slice (some ⟨g, 0, none⟩) ds.length cp) (i + 1) ((cy + ds[i] * 256) / 58) (wi.setCell ⟨g, i, none⟩ (bv ((cy + ds[i] * 256) % 58))) := by
  obtain ⟨l, h1, h2, h3, h4, h5, h6⟩ := h
  have hil : i < l.length := by omega
  have hli : l[i] = ds[i] := by
    have e := congrArg (fun l : List Nat => l[0]?) h2
    simp only [List.getElem?_drop, Nat.add_zero] at e
    rw [List.getElem?_eq_getElem hil, List.getElem?_eq_getElem hi] at e
    simpa using e
  have ht : (l.set i ((cy + ds[i] * 256) % 58)).take (i + 1) = l.take i ++ [(cy + ds[i] * 256) % 58] := by
    rw [List.take_succ_eq_append_getElem (by simpa using hil), List.take_set_of_le (Nat.le_refl _)]
    simp
  have hd : ds.take (i + 1) = ds.take i ++ [ds[i]] := List.take_succ_eq_append_getElem hi
  refine ⟨l.set i ((cy + ds[i] * 256) % 58), by simpa using h1, ?_, ?_, ?_, h5.set h1.symm i _, h6.setCell hg _⟩
  · rw [List.drop_set_of_lt (by omega)]
    have := congrArg (List.drop 1) h2
    rw [List.drop_drop, List.drop_drop] at this
    exact this
  · intro d hdm
    rw [ht] at hdm
    rcases List.mem_append.1 hdm with h | h
    · exact h3 d h
    · simp at h; rw [h]; exact Nat.mod_lt _ (by decide)
  · rw [ht, hd, val_snoc, val_snoc, List.length_take, List.length_take, Nat.min_eq_left (by omega), Nat.min_eq_left (by omega), Nat.pow_succ]
    have e1 := Nat.mod_add_div (cy + ds[i] * 256) 58
    have e2 : 58 ^ i * ((cy + ds[i] * 256) % 58) + 58 ^ i * 58 * ((cy + ds[i] * 256) / 58) = 58 ^ i * (cy + ds[i] * 256) := by
      rw [Nat.mul_assoc, ← Nat.mul_add, e1]
    rw [Nat.add_assoc, e2, Nat.mul_add, ← Nat.add_assoc, h4, Nat.mul_add]
    rw [Nat.mul_comm ds[i] 256, ← Nat.mul_assoc, ← Nat.mul_assoc, Nat.mul_comm (58 ^ i) 256]
    omega

/-- The last loop: what is left of the carry is laid on top. -/
def TopR (w : World) (X : Nat) (v : Value) (cy : Nat) (wi : World) : Prop :=
  ∃ cur g cp, v = .slice (some ⟨g, 0, none⟩) cur.length cp ∧ Own wi w.heap.size v cur ∧ (∀ d ∈ cur, d < 58) ∧ val 58 cur + 58 ^ cur.length * cy = X ∧ (cy = 0 → Norm 58 cur) ∧ Below w.heap.size w wi

theorem InR.done {w wi : World} {ds : List Nat} {c g cp cy : Nat} (h : InR w ds c (.slice (some ⟨g, 0, none⟩) ds.length cp) ds.length cy wi) (hN : Norm 58 ds) : TopR w (c + 256 * val 58 ds) (.slice (some ⟨g, 0, none⟩) ds.length cp) cy wi := by
  obtain ⟨l, h1, h2, h3, h4, h5, h6⟩ := h
  rw [List.take_of_length_le (by omega)] at h3 h4
  rw [List.take_of_length_le (by omega)] at h4
  refine ⟨l, g, cp, by rw [h1], h5, h3, by rw [h1]; exact h4, fun h0 => ?_, h6⟩
  subst h0
  rw [Nat.mul_zero, Nat.add_zero] at h4
  rcases hN with hN | hN
  · left; exact List.eq_nil_of_length_eq_zero (by rw [h1, hN]; rfl)
  · right; rw [h1, h4]; omega

theorem TopR.lt {w wi : World} {X : Nat} {v : Value} {cy m : Nat} (h : TopR w X v cy wi) (hc : 0 < cy) (hX : X < 256 ^ m) : ∃ cur g cp, v = .slice (some ⟨g, 0, none⟩) cur.length cp ∧ Own wi w.heap.size v cur ∧ cur.length < 2 * m ∧ (∀ d ∈ cur, d < 58) ∧ val 58 cur + 58 ^ cur.length * cy = X ∧ Below w.heap.size w wi := by
  obtain ⟨cur, g, cp, h1, h2, h3, h4, h5, h6⟩ := h
  refine ⟨cur, g, cp, h1, h2, ?_, h3, h4, h6⟩
  have hp := pow_bound m
  have hm : 58 ^ cur.length * 1 ≤ 58 ^ cur.length * cy := Nat.mul_le_mul_left _ hc
  exact pow_lt_of (b := 58) (by decide) (by omega)

theorem TopR.push {w w3 : World} {X : Nat} {v' : Value} {cur : List Nat} {cy : Nat} (h3 : ∀ d ∈ cur, d < 58) (h4 : val 58 cur + 58 ^ cur.length * cy = X) (hc : 0 < cy) (ho : Own w3 w.heap.size v' (cur ++ [cy % 58])) (hb : Below w.heap.size w w3) :
    TopR w X v' (cy / 58) w3 := by
  have hsh : ∃ g c, v' = .slice (some ⟨g, 0, none⟩) (cur ++ [cy % 58]).length c := by
    rcases ho.shape with ⟨_, hn⟩ | ⟨g, c, h, _⟩
    · simp at hn
    · exact ⟨g, c, h⟩
  obtain ⟨g, c, hv⟩ := hsh
  refine ⟨cur ++ [cy % 58], g, c, hv, ho, ?_, ?_, ?_, hb⟩
  · intro d hd
    rcases List.mem_append.1 hd with h | h
    · exact h3 d h
    · simp at h; rw [h]; exact Nat.mod_lt _ (by decide)
  · rw [val_snoc, List.length_append, List.length_singleton, Nat.pow_succ, Nat.add_assoc, Nat.mul_assoc, ← Nat.mul_add, Nat.mod_add_div]
    exact h4
  · intro h0
    right
    have e : cy % 58 = cy := Nat.mod_eq_of_lt (by omega)
    rw [val_snoc, List.length_append, List.length_singleton, Nat.add_sub_cancel, e]
    have hm : 58 ^ cur.length * 1 ≤ 58 ^ cur.length * cy := Nat.mul_le_mul_left _ hc
    omega

theorem TopR.done {w wi : World} {z : Nat → Nat} {zc j : Nat} {v : Value} {ds : List Nat} (h : TopR w (z (zc + j) + 256 * val 58 ds) v 0 wi) (hv : val 58 ds = be 256 z zc j) : OutR w z zc (j + 1) v wi := by
  obtain ⟨cur, g, cp, h1, h2, h3, h4, h5, h6⟩ := h
  refine ⟨cur, g, cp, h1, h2, h3, h5 rfl, ?_, h6⟩
  rw [Nat.mul_zero, Nat.add_zero] at h4
  rw [h4, hv, be_succ]
  omega

/-- The text that the encoder lays down. -/
def encL (zc : Nat) (ds : List Nat) : List Nat := List.replicate zc 49 ++ ds.reverse.map alpha
def encF (zc : Nat) (ds : List Nat) (j : Nat) : Nat := if j < zc then 49 else alpha (ds.getD (zc + ds.length - 1 - j) 0)
theorem encF_list (zc : Nat) (ds : List Nat) : (List.range (zc + ds.length)).map (encF zc ds) = encL zc ds := by
  apply List.ext_getElem?
  intro j
  unfold encL
  by_cases hj : j < zc + ds.length
  · rw [List.getElem?_map, List.getElem?_range hj]
    by_cases h1 : j < zc
    · rw [List.getElem?_append_left (by simpa using h1), List.getElem?_replicate, if_pos h1]
      simp [encF, h1]
    · rw [List.getElem?_append_right (by simp; omega), List.getElem?_map, List.length_replicate, List.getElem?_reverse (by omega)]
      have e : ds.length - 1 - (j - zc) = zc + ds.length - 1 - j := by omega
      rw [e, List.getElem?_eq_getElem (by omega)]
      simp [encF, h1, List.getElem?_eq_getElem (show zc + ds.length - 1 - j < ds.length by omega)]
  · rw [List.getElem?_eq_none (by simp; omega), List.getElem?_eq_none (by simp; omega)]

structure Enc (n : Nat) (z : Nat → Nat) (zc : Nat) (ds : List Nat) : Prop where
  lead : Lead n z zc
  dig : ∀ d ∈ ds, d < 58
  norm : Norm 58 ds
  value : val 58 ds = be 256 z zc (n - zc)

/-- The digits of a number, one normal list. -/
theorem enc_unique {n : Nat} {z : Nat → Nat} {zc zc' : Nat} {ds ds' : List Nat} (h : Enc n z zc ds) (h' : Enc n z zc' ds') : zc = zc' ∧ ds = ds' := by
  have e : zc = zc' := by
    by_cases h1 : zc < zc'
    · have := h.lead.stop (by have := h'.lead.le; omega); exact absurd (h'.lead.zero zc h1) this
    · by_cases h2 : zc' < zc
      · have := h'.lead.stop (by have := h.lead.le; omega); exact absurd (h.lead.zero zc' h2) this
      · omega
  subst e
  exact ⟨rfl, norm_unique 58 (by decide) ds ds' h.dig h'.dig h.norm h'.norm (by rw [h.value, h'.value])⟩

def EncP (w : World) (n : Nat) (z : Nat → Nat) (e : Ending) (w' : World) : Prop := ∃ zc ds, Enc n z zc ds ∧ e = .returned (.string (strOf (encL zc ds))) ∧ Below w.heap.size w w'

theorem alpha_all : ∀ k : Fin 58, ((({ data := #[49, 50, 51, 52, 53, 54, 55, 56, 57, 65, 66, 67, 68, 69, 70, 71, 72, 74, 75, 76, 77, 78, 80, 81, 82, 83, 84, 85, 86, 87, 88, 89, 90, 97, 98, 99, 100, 101, 102, 103, 104, 105, 106, 107, 109, 110, 111, 112, 113, 114, 115, 116, 117, 118, 119, 120, 121, 122] } : ByteArray)[k.val]'(k.isLt)).toNat : Int) = (alpha k.val : Int) := by decide
theorem alpha_at (k : Nat) (h : k < 58) : ((({ data := #[49, 50, 51, 52, 53, 54, 55, 56, 57, 65, 66, 67, 68, 69, 70, 71, 72, 74, 75, 76, 77, 78, 80, 81, 82, 83, 84, 85, 86, 87, 88, 89, 90, 97, 98, 99, 100, 101, 102, 103, 104, 105, 106, 107, 109, 110, 111, 112, 113, 114, 115, 116, 117, 118, 119, 120, 121, 122] } : ByteArray)[k]'(h)).toNat : Int) = (alpha k : Int) := alpha_all ⟨k, h⟩

theorem InR.start {w w1 : World} {ds : List Nat} {c : Nat} {v : Value} (ho : Own w1 w.heap.size v ds) (hb : Below w.heap.size w w1) : InR w ds c v 0 c w1 :=
  ⟨ds, rfl, rfl, fun d hd => (by simp at hd), by simp [val], ho, hb⟩
theorem InR.at {w wi : World} {ds : List Nat} {c g cp i cy : Nat} (h : InR w ds c (.slice (some ⟨g, 0, none⟩) ds.length cp) i cy wi) (hi : i < ds.length) :
    wi.cell? ⟨g, i, none⟩ = some (.int .u8 ((ds[i] : Nat) : Int)) ∧ wi.frozen? ⟨g, i, none⟩ = false := by
  obtain ⟨l, h1, h2, h3, h4, h5, h6⟩ := h
  have hil : i < l.length := by omega
  have hli : l[i] = ds[i] := by
    have e := congrArg (fun l : List Nat => l[0]?) h2
    simp only [List.getElem?_drop, Nat.add_zero] at e
    rw [List.getElem?_eq_getElem hil, List.getElem?_eq_getElem hi] at e
    simpa using e
  refine ⟨?_, h5.frozen h1.symm i⟩
  rw [← hli]
  have h5' := h5
  rw [← h1] at h5'
  exact h5'.cell i hil

/-- The zeros of the text. -/
theorem ones_step {w : World} {b n k : Nat} (h : w.rowIs b 5 n (fun j => bv (if j < k then 49 else 0))) : (w.setCell ⟨b, k, none⟩ (.int .u8 49)).rowIs b 5 n (fun j => bv (if j < k + 1 then 49 else 0)) := by
  refine (h.set k (.int .u8 49)).congr fun j hj => ?_
  by_cases e : j = k
  · subst e; simp [bv]
  · by_cases h2 : j < k
    · simp [e, h2, show j < k + 1 by omega]
    · simp [e, h2, show ¬ j < k + 1 by omega]
/-- The digits of the text, k of them laid. -/
def txF (zc : Nat) (ds : List Nat) (k j : Nat) : Nat := if j < zc then 49 else if zc + ds.length - k ≤ j then alpha (ds.getD (zc + ds.length - 1 - j) 0) else 0
theorem text_step {w : World} {b zc k : Nat} {ds : List Nat} (h : w.rowIs b 5 (zc + ds.length) (fun j => bv (txF zc ds k j))) (hk : k < ds.length) :
    (w.setCell ⟨b, zc + ds.length - 1 - k, none⟩ (.int .u8 ((alpha ds[k] : Nat) : Int))).rowIs b 5 (zc + ds.length) (fun j => bv (txF zc ds (k + 1) j)) := by
  refine (h.set _ _).congr fun j hj => ?_
  unfold txF
  by_cases e : j = zc + ds.length - 1 - k
  · rw [if_pos e, if_neg (by omega), if_pos (by omega)]
    have e2 : zc + ds.length - 1 - j = k := by omega
    rw [e2, List.getD_eq_getElem?_getD, List.getElem?_eq_getElem hk]
    rfl
  · rw [if_neg e]
    by_cases h1 : j < zc
    · rw [if_pos h1, if_pos h1]
    · rw [if_neg h1, if_neg h1]
      by_cases h2 : zc + ds.length - k ≤ j
      · rw [if_pos h2, if_pos (by omega)]
      · rw [if_neg h2, if_neg (by omega)]
theorem text_start {w : World} {b zc : Nat} {ds : List Nat} (h : w.rowIs b 5 (zc + ds.length) (fun j => bv (if j < zc then 49 else 0))) : w.rowIs b 5 (zc + ds.length) (fun j => bv (txF zc ds 0 j)) := by
  refine h.congr fun j hj => ?_
  unfold txF
  by_cases h1 : j < zc
  · rw [if_pos h1, if_pos h1]
  · rw [if_neg h1, if_neg h1, if_neg (by omega)]
theorem text_done {w : World} {b zc : Nat} {ds : List Nat} (h : w.rowIs b 5 (zc + ds.length) (fun j => bv (txF zc ds ds.length j))) : w.rowIs b 5 (zc + ds.length) (fun j => bv (encF zc ds j)) := by
  refine h.congr fun j hj => ?_
  unfold txF encF
  by_cases h1 : j < zc
  · rw [if_pos h1, if_pos h1]
  · rw [if_neg h1, if_neg h1, if_pos (by omega)]

set_option maxHeartbeats 4000000 in
theorem enc_some (x : Addr) (n zc : Nat) (z : Nat → Nat) (w : World) (hn : n ≤ 4096) (hx : LX w (some x) n z) (hz : ∀ i, i < n → z i < 256) (hl : Lead n z zc) (hzn : zc < n) :
    Calls Try.prog 8 #[.slice (some x) n n] w fun e w' => EncP w n z e w' := by
  have HL := hide hl
  have HZ := hide hz
  have hxc : ∀ j, j < n → w.cell? (x.add j) = some (.int .u8 (z j : Nat)) := hx.2 x rfl
  have HXC := hide hxc
  obtain ⟨cp, hcp⟩ : ∃ cp, (((n : Int) - zc) * 138 / 100 + 1).toNat = cp := ⟨_, rfl⟩
  have hcp2 : cp ≤ 99999999 := by omega
  have hmk := fun w => make_cap (((n : Int) - zc) * 138 / 100 + 1) (by omega) (by omega) w
  rw [hcp] at hmk
  have HS : Hid (OutR w z zc 0 (.slice (some ⟨w.heap.size, 0, none⟩) 0 cp) (w.alloc (.cells (madeCells #[.int .u8 0] cp) 5))) :=
    ⟨[], w.heap.size, cp, rfl, own_made w cp (by unfold maxLen; omega), fun d hd => (by cases hd), .inl rfl, rfl, (Below.refl _ _).alloc (Nat.le_refl _) _⟩
  clear hx hl hz hxc hcp
  go_enter Try.func8, Try.ntmps8
  go_wp2
  go_loop [3] (fun i => ∃ k : Nat, k ≤ zc ∧ i = .int .i64 k) (fun i => zc - (intOf i).toNat)
  case atStart => exact ⟨0, by omega, rfl⟩
  case round =>
    obtain ⟨k, hk, rfl⟩ := hrel
    have hck := unhide HXC k (by omega)
    by_cases hlt : k < zc
    · rw [(unhide HL).zero k hlt] at hck
      clear hmk
      go_wp2
      go_round
      case rel => exact ⟨k + 1, by omega, by go_num⟩
      case measure => simp [intOf]; omega
    · have hkz : zc = k := by omega
      subst hkz
      have hz0 : ((z zc : Int) == 0) = false := by rw [beq_eq_false_iff_ne]; have := (unhide HL).stop hzn; omega
      have hncz : ¬ n = zc := by omega
      go_wp2
      clear hmk hck hz0
      go_loopw [4, 38] (fun v i wr => ∃ j : Nat, j ≤ n - zc ∧ i = .int .i64 j ∧ OutR w z zc j v wr) (fun _ i _ => n - zc - (intOf i).toNat)
      case atStart => exact ⟨0, by omega, rfl, unhide HS⟩
      case round =>
        rename World => w1
        obtain ⟨j, hj, rfl, hout⟩ := hrel
        clear HS
        obtain ⟨ds, g, cd, rfl, hown, hdig, hnorm, hval, hbel⟩ := hout
        by_cases hjl : j < n - zc
        · have hcell : w1.cell? ((x.add zc).add j) = some (.int .u8 (z (zc + j) : Nat)) := by
            rw [Go.Deep.add_add]; exact cell_later hbel (unhide HXC (zc + j) (by omega))
          have hc256 := unhide HZ (zc + j) (by omega)
          obtain ⟨c, hc⟩ : ∃ c, z (zc + j) = c := ⟨_, rfl⟩
          rw [hc] at hcell hc256
          have HC := hide hc
          have HIN := hide (InR.start (c := c) hown hbel)
          have HOWN := hide hown
          have hgB : w.heap.size ≤ g := by
            rcases hown.shape with ⟨h, _⟩ | ⟨g', c', h, hb, _⟩
            · simp at h
            · simp at h; omega
          have HDIG := hide hdig
          have HNORM := hide hnorm
          have HVAL := hide hval
          have hdl : ds.length ≤ 8192 := by
            have := digits_le ds j hnorm (by rw [hval]; exact be_lt 256 z zc j (fun i hi => unhide HZ (zc + i) (by omega)))
            omega
          clear hc hown hdig hnorm hval hbel
          go_wp2
          go_loopw [7, 46] (fun cyv i wi => ∃ i' cy : Nat, i' ≤ ds.length ∧ i = .int .i64 i' ∧ cyv = .int .i64 cy ∧ cy < 256 ∧ InR w ds c (.slice (some ⟨g, 0, none⟩) ds.length cd) i' cy wi) (fun _ i _ => ds.length - (intOf i).toNat)
          case atStart => exact ⟨0, c, by omega, rfl, rfl, hc256, unhide HIN⟩
          case round =>
            rename World => wi
            obtain ⟨i, cy, hi, rfl, rfl, hcy, hin⟩ := hrel
            clear HIN
            by_cases hil : i < ds.length
            · obtain ⟨hci, hfi⟩ := hin.at hil
              have hd58 := unhide HDIG _ (List.getElem_mem hil)
              have hst := hin.step hil hgB
              obtain ⟨d, hd⟩ : ∃ d, ds[i] = d := ⟨_, rfl⟩
              rw [hd] at hci hd58 hst
              have e1 : (((cy + d * 256) % 58 : Nat) : Int) = ((cy : Int) + (d : Int) * 256) % 58 := by omega
              unfold bv at hst
              rw [e1] at hst
              have HN := hide hst
              clear hst hin hd e1
              go_wp2
              go_roundw
              case rel => exact ⟨i + 1, (cy + d * 256) / 58, by omega, by go_num, by go_num, by omega, unhide HN⟩
              case measure => simp [intOf]; omega
            · have hie : i = ds.length := by omega
              subst hie
              have HTOP := hide (hin.done (unhide HNORM))
              have hX : c + 256 * val 58 ds < 256 ^ (j + 1) := by
                rw [unhide HVAL]
                have := be_lt 256 z zc (j + 1) (fun i hi => unhide HZ (zc + i) (by omega))
                rw [be_succ, unhide HC] at this
                omega
              have HX := hide hX
              clear hin hX
              go_wp2
              go_loopw [4, 7] (fun v cyv wi => ∃ cy : Nat, cyv = .int .i64 cy ∧ cy < 256 ∧ TopR w (c + 256 * val 58 ds) v cy wi) (fun _ cyv _ => (intOf cyv).toNat)
              case atStart => exact ⟨cy, rfl, hcy, unhide HTOP⟩
              case round =>
                rename World => wt
                obtain ⟨ct, rfl, hct, htop⟩ := hrel
                clear HTOP
                by_cases hc0 : 0 < ct
                · obtain ⟨cur, g2, c2, rfl, hown2, hlen2, hdig2, hval2, hbel2⟩ := htop.lt hc0 (unhide HX)
                  have HOW2 := hide hown2
                  have HD2 := hide hdig2
                  have HV2 := hide hval2
                  have HB2 := hide hbel2
                  have hsz2 : w.heap.size ≤ wt.heap.size := hbel2.size
                  have hl2 : cur.length ≤ 9999999 := by omega
                  clear hown2 hdig2 hval2 hbel2 htop
                  go_wp2_with (at_builtin; refine wpList_app_one (by rfl) _ _ (by rfl) w.heap.size _ cur (ct % 58) _ wt (by rfl) (by rfl) HOW2 hsz2 hl2 (by omega) ?_)
                  intro v' w3 R1 R2
                  have R3 := hide (TopR.push (unhide HD2) (unhide HV2) hc0 (unhide R1) ((unhide HB2).trans (unhide R2)))
                  go_wp2
                  go_roundw
                  case rel => exact ⟨ct / 58, by go_num, by omega, unhide R3⟩
                  case measure => simp [intOf]; omega
                · have hct0 : ct = 0 := by omega
                  subst hct0
                  have HO : Hid (OutR w z zc (j + 1) _ wt) := TopR.done (ds := ds) (by rw [unhide HC]; exact htop) (unhide HVAL)
                  clear htop
                  go_wp2
                  go_roundw
                  case rel => exact ⟨j + 1, by omega, by go_num, unhide HO⟩
                  case measure => simp [intOf]; omega
        · have hje : j = n - zc := by omega
          subst hje
          have hdl : ds.length ≤ 8192 := by
            have := digits_le ds (n - zc) hnorm (by rw [hval]; exact be_lt 256 z zc (n - zc) (fun i hi => unhide HZ (zc + i) (by omega)))
            omega
          have HENC : Hid (Enc n z zc ds) := ⟨unhide HL, hdig, hnorm, hval⟩
          have hmk2 := fun w => make_full ((zc : Int) + (ds.length : Int)) (zc + ds.length) (by omega) (by omega) w
          have hrow : Hid ((w1.alloc (.cells (madeCells #[.int .u8 0] (zc + ds.length)) 5)).rowIs w1.heap.size 5 (zc + ds.length) (fun j => bv (if j < 0 then 49 else 0))) := (World.rowIs_made w1 (.int .u8 0) (zc + ds.length) 5).congr (fun i hi => by simp [bv])
          have hbel1 : Hid (Below w1.heap.size w1 (w1.alloc (.cells (madeCells #[.int .u8 0] (zc + ds.length)) 5))) := (Below.refl _ _).alloc (Nat.le_refl _) _
          have HDC : Hid (∀ k (h : k < ds.length), w1.cell? ⟨g, k, none⟩ = some (.int .u8 ((ds[k] : Nat) : Int))) := fun k h => hown.cell k h
          have HDIG := hide hdig
          have HB := hide hbel
          have hwsz : w.heap.size ≤ w1.heap.size := hbel.size
          clear hown hdig hnorm hval hbel
          go_wp2
          clear hmk2
          go_loopw [83] (fun i wr => ∃ k : Nat, k ≤ zc ∧ i = .int .i64 k ∧ wr.rowIs w1.heap.size 5 (zc + ds.length) (fun j => bv (if j < k then 49 else 0)) ∧ Below w1.heap.size w1 wr) (fun i _ => zc - (intOf i).toNat)
          case atStart => exact ⟨0, by omega, rfl, unhide hrow, unhide hbel1⟩
          case round =>
            rename World => wr
            obtain ⟨k, hk2, rfl, hrw, hb⟩ := hrel
            clear hrow hbel1
            by_cases hkz : k < zc
            · have h2 : ∃ v, wr.cell? ⟨w1.heap.size, k, none⟩ = some v := ⟨_, hrw.cell (by omega)⟩
              obtain ⟨v2, h2⟩ := h2
              have h3 := hrw.frozen k
              have HN := hide (ones_step hrw)
              have HBN := hide hb
              clear hrw hb
              go_wp2
              go_roundw
              case rel => exact ⟨k + 1, by omega, by go_num, unhide HN, (unhide HBN).setCell (Nat.le_refl _) _⟩
              case measure => simp [intOf]; omega
            · have hke : k = zc := by omega
              subst hke
              have HST := hide (text_start hrw)
              have HBN := hide hb
              clear hrw hb
              go_wp2
              go_loopw [93] (fun i wr => ∃ q : Nat, q ≤ ds.length ∧ i = .int .i64 q ∧ wr.rowIs w1.heap.size 5 (k + ds.length) (fun j => bv (txF k ds q j)) ∧ Below w1.heap.size w1 wr) (fun i _ => ds.length - (intOf i).toNat)
              case atStart => exact ⟨0, by omega, rfl, unhide HST, unhide HBN⟩
              case round =>
                rename World => wt
                obtain ⟨q, hq, rfl, hrw, hb⟩ := hrel
                clear HST HBN
                by_cases hql : q < ds.length
                · have hcd := cell_later hb (unhide HDC q hql)
                  have hd58 := unhide HDIG _ (List.getElem_mem hql)
                  have h2 : ∃ v, wt.cell? ⟨w1.heap.size, k + ds.length - 1 - q, none⟩ = some v := ⟨_, hrw.cell (by omega)⟩
                  obtain ⟨v2, h2⟩ := h2
                  have h3 := hrw.frozen (k + ds.length - 1 - q)
                  have hts := text_step hrw hql
                  obtain ⟨d, hd⟩ : ∃ d, ds[q] = d := ⟨_, rfl⟩
                  rw [hd] at hcd hd58 hts
                  have hal := alpha_at d hd58
                  have HN := hide hts
                  have HBN := hide hb
                  clear hrw hb hts hd
                  go_wp2
                  go_roundw
                  case rel => exact ⟨q + 1, by omega, by go_num, unhide HN, (unhide HBN).setCell (Nat.le_refl _) _⟩
                  case measure => simp [intOf]; omega
                · have hqe : q = ds.length := by omega
                  subst hqe
                  have hcv := conv_row (text_done hrw)
                  rw [encF_list] at hcv
                  have HBF : Hid (Below w.heap.size w wt) := (unhide HB).trans (hb.mono hwsz)
                  clear hrw hb
                  go_wp2
                  go_ret
                  exact ⟨k, ds, unhide HENC, rfl, unhide HBF⟩
end Go.Proofs.Qxb6601650a
