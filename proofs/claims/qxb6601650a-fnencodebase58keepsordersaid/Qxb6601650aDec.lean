/-
  zzDecodeBase58: its walk.
-/
import Derived.Test.Qxb6601650aEnc2
import Derived.Test.Qxb6601650aMod
namespace Go.Proofs.Qxb6601650a
open Go.RowKit
set_option linter.unusedVariables false

/-- The inner loop: i digits done, the carry cy. -/
def DnR (w : World) (ds : List Nat) (c : Nat) (v : Value) (i cy : Nat) (wi : World) : Prop :=
  ∃ l : List Nat, l.length = ds.length ∧ l.drop i = ds.drop i ∧ (∀ d ∈ l.take i, d < 256) ∧ val 256 (l.take i) + 256 ^ i * cy = c + 58 * val 256 (ds.take i) ∧ Own wi w.heap.size v l ∧ Below w.heap.size w wi

theorem DnR.step {w wi : World} {ds : List Nat} {c g cp i cy : Nat} (h : DnR w ds c (.slice (some ⟨g, 0, none⟩) ds.length cp) i cy wi) (hi : i < ds.length) (hg : w.heap.size ≤ g) :
    DnR w ds c (.slice (some ⟨g, 0, none⟩) ds.length cp) (i + 1) ((cy + ds[i] * 58) / 256) (wi.setCell ⟨g, i, none⟩ (bv ((cy + ds[i] * 58) % 256))) := by
  obtain ⟨l, h1, h2, h3, h4, h5, h6⟩ := h
  have hil : i < l.length := by omega
  have hli : l[i] = ds[i] := by
    have e := congrArg (fun l : List Nat => l[0]?) h2
    simp only [List.getElem?_drop, Nat.add_zero] at e
    rw [List.getElem?_eq_getElem hil, List.getElem?_eq_getElem hi] at e
    simpa using e
  have ht : (l.set i ((cy + ds[i] * 58) % 256)).take (i + 1) = l.take i ++ [(cy + ds[i] * 58) % 256] := by
    rw [List.take_succ_eq_append_getElem (by simpa using hil), List.take_set_of_le (Nat.le_refl _)]
    simp
  have hd : ds.take (i + 1) = ds.take i ++ [ds[i]] := List.take_succ_eq_append_getElem hi
  refine ⟨l.set i ((cy + ds[i] * 58) % 256), by simpa using h1, ?_, ?_, ?_, h5.set h1.symm i _, h6.setCell hg _⟩
  · rw [List.drop_set_of_lt (by omega)]
    have := congrArg (List.drop 1) h2
    rw [List.drop_drop, List.drop_drop] at this
    exact this
  · intro d hdm
    rw [ht] at hdm
    rcases List.mem_append.1 hdm with h | h
    · exact h3 d h
    · simp at h; rw [h]; exact Nat.mod_lt _ (by decide)
  · rw [ht, hd, val_snoc, val_snoc, List.length_take, List.length_take, Nat.min_eq_left (by omega), Nat.min_eq_left (by omega), Nat.pow_succ]
    have e1 := Nat.mod_add_div (cy + ds[i] * 58) 256
    have e2 : 256 ^ i * ((cy + ds[i] * 58) % 256) + 256 ^ i * 256 * ((cy + ds[i] * 58) / 256) = 256 ^ i * (cy + ds[i] * 58) := by
      rw [Nat.mul_assoc, ← Nat.mul_add, e1]
    rw [Nat.add_assoc, e2, Nat.mul_add, ← Nat.add_assoc, h4, Nat.mul_add]
    rw [Nat.mul_comm ds[i] 58, ← Nat.mul_assoc, ← Nat.mul_assoc, Nat.mul_comm (256 ^ i) 58]
    omega

/-- The last loop: what is left of the carry is laid on top. -/
def DpR (w : World) (X : Nat) (v : Value) (cy : Nat) (wi : World) : Prop :=
  ∃ cur g cp, v = .slice (some ⟨g, 0, none⟩) cur.length cp ∧ Own wi w.heap.size v cur ∧ (∀ d ∈ cur, d < 256) ∧ val 256 cur + 256 ^ cur.length * cy = X ∧ (cy = 0 → Norm 256 cur) ∧ Below w.heap.size w wi

theorem DnR.done {w wi : World} {ds : List Nat} {c g cp cy : Nat} (h : DnR w ds c (.slice (some ⟨g, 0, none⟩) ds.length cp) ds.length cy wi) (hN : Norm 256 ds) : DpR w (c + 58 * val 256 ds) (.slice (some ⟨g, 0, none⟩) ds.length cp) cy wi := by
  obtain ⟨l, h1, h2, h3, h4, h5, h6⟩ := h
  rw [List.take_of_length_le (by omega)] at h3 h4
  rw [List.take_of_length_le (by omega)] at h4
  refine ⟨l, g, cp, by rw [h1], h5, h3, by rw [h1]; exact h4, fun h0 => ?_, h6⟩
  subst h0
  rw [Nat.mul_zero, Nat.add_zero] at h4
  rcases hN with hN | hN
  · left; exact List.eq_nil_of_length_eq_zero (by rw [h1, hN]; rfl)
  · right; rw [h1, h4]; omega

theorem DpR.lt {w wi : World} {X : Nat} {v : Value} {cy m : Nat} (h : DpR w X v cy wi) (hc : 0 < cy) (hX : X < 58 ^ m) : ∃ cur g cp, v = .slice (some ⟨g, 0, none⟩) cur.length cp ∧ Own wi w.heap.size v cur ∧ cur.length < m ∧ (∀ d ∈ cur, d < 256) ∧ val 256 cur + 256 ^ cur.length * cy = X ∧ Below w.heap.size w wi := by
  obtain ⟨cur, g, cp, h1, h2, h3, h4, h5, h6⟩ := h
  refine ⟨cur, g, cp, h1, h2, ?_, h3, h4, h6⟩
  have hp : 58 ^ m ≤ 256 ^ m := Nat.pow_le_pow_left (by decide) m
  have hm : 256 ^ cur.length * 1 ≤ 256 ^ cur.length * cy := Nat.mul_le_mul_left _ hc
  exact pow_lt_of (b := 256) (by decide) (by omega)

theorem DpR.push {w w3 : World} {X : Nat} {v' : Value} {cur : List Nat} {cy : Nat} (h3 : ∀ d ∈ cur, d < 256) (h4 : val 256 cur + 256 ^ cur.length * cy = X) (hc : 0 < cy) (ho : Own w3 w.heap.size v' (cur ++ [cy % 256])) (hb : Below w.heap.size w w3) :
    DpR w X v' (cy / 256) w3 := by
  have hsh : ∃ g c, v' = .slice (some ⟨g, 0, none⟩) (cur ++ [cy % 256]).length c := by
    rcases ho.shape with ⟨_, hn⟩ | ⟨g, c, h, _⟩
    · simp at hn
    · exact ⟨g, c, h⟩
  obtain ⟨g, c, hv⟩ := hsh
  refine ⟨cur ++ [cy % 256], g, c, hv, ho, ?_, ?_, ?_, hb⟩
  · intro d hd
    rcases List.mem_append.1 hd with h | h
    · exact h3 d h
    · simp at h; rw [h]; exact Nat.mod_lt _ (by decide)
  · rw [val_snoc, List.length_append, List.length_singleton, Nat.pow_succ, Nat.add_assoc, Nat.mul_assoc, ← Nat.mul_add, Nat.mod_add_div]
    exact h4
  · intro h0
    right
    have e : cy % 256 = cy := Nat.mod_eq_of_lt (by omega)
    rw [val_snoc, List.length_append, List.length_singleton, Nat.add_sub_cancel, e]
    have hm : 256 ^ cur.length * 1 ≤ 256 ^ cur.length * cy := Nat.mul_le_mul_left _ hc
    omega

theorem DnR.start {w w1 : World} {ds : List Nat} {c : Nat} {v : Value} (ho : Own w1 w.heap.size v ds) (hb : Below w.heap.size w w1) : DnR w ds c v 0 c w1 :=
  ⟨ds, rfl, rfl, fun d hd => (by simp at hd), by simp [val], ho, hb⟩
theorem DnR.at {w wi : World} {ds : List Nat} {c g cp i cy : Nat} (h : DnR w ds c (.slice (some ⟨g, 0, none⟩) ds.length cp) i cy wi) (hi : i < ds.length) :
    wi.cell? ⟨g, i, none⟩ = some (.int .u8 ((ds[i] : Nat) : Int)) ∧ wi.frozen? ⟨g, i, none⟩ = false := by
  obtain ⟨l, h1, h2, h3, h4, h5, h6⟩ := h
  have hil : i < l.length := by omega
  have hli : l[i] = ds[i] := by
    have e := congrArg (fun l : List Nat => l[0]?) h2
    simp only [List.getElem?_drop, Nat.add_zero] at e
    rw [List.getElem?_eq_getElem hil, List.getElem?_eq_getElem hi] at e
    simpa using e
  refine ⟨?_, h5.frozen h1.symm i⟩
  rw [← hli]
  have h5' := h5
  rw [← h1] at h5'
  exact h5'.cell i hil


theorem alpha_inj_all : ∀ i j : Fin 58, alpha i.val = alpha j.val → i = j := by decide +kernel
theorem alpha_inj (i j : Nat) (hi : i < 58) (hj : j < 58) (h : alpha i = alpha j) : i = j := congrArg Fin.val (alpha_inj_all ⟨i, hi⟩ ⟨j, hj⟩ h)
theorem alpha_byte_all : ∀ i : Fin 58, alpha i.val < 256 := by decide
theorem alpha_byte (i : Nat) (hi : i < 58) : alpha i < 256 := alpha_byte_all ⟨i, hi⟩
theorem alpha_mono_all : ∀ i j : Fin 58, i.val < j.val → alpha i.val < alpha j.val := by decide +kernel
theorem alpha_mono (i j : Nat) (hj : j < 58) (h : i < j) : alpha i < alpha j := alpha_mono_all ⟨i, by omega⟩ ⟨j, hj⟩ h

set_option maxHeartbeats 400000 in
theorem index_any (d : Nat) (hd : d < 58) (w : World) : Calls Try.prog 15 #[.int .u8 (alpha d : Nat)] w fun e w' => e = .returned (.int .i64 d) ∧ w' = w := by
  obtain ⟨c, hc⟩ : ∃ c, alpha d = c := ⟨_, rfl⟩
  rw [hc]
  have HC := hide hc
  clear hc
  go_enter Try.func15, Try.ntmps15
  go_wp2
  go_loop [2, 3] (fun t2 i => ∃ k : Nat, k ≤ d ∧ t2 = .int .i64 0 ∧ i = .int .i64 k) (fun _ i => d - (intOf i).toNat)
  case atStart => exact ⟨0, by omega, rfl, rfl⟩
  case round =>
    obtain ⟨k, hk, rfl, rfl⟩ := hrel
    have hal := alpha_at k (by omega)
    by_cases hlt : k < d
    · have hne : (((alpha k : Nat) : Int) == (c : Int)) = false := by
        rw [beq_eq_false_iff_ne]
        intro h
        have := alpha_inj k d (by omega) hd (by rw [unhide HC]; omega)
        omega
      go_wp2
      go_round
      case rel => exact ⟨k + 1, by omega, rfl, by go_num⟩
      case measure => simp [intOf]; omega
    · have hkd : k = d := by omega
      subst hkd
      have heq : (((alpha k : Nat) : Int) == (c : Int)) = true := by rw [beq_iff_eq, unhide HC]
      go_wp2
      go_ret
      exact ⟨rfl, rfl⟩

/-- The digits, most significant first. -/
def dg (ds : List Nat) (i : Nat) : Nat := ds.getD (ds.length - 1 - i) 0
theorem dg_lt (ds : List Nat) (h : ∀ d ∈ ds, d < 58) (i : Nat) (hi : i < ds.length) : dg ds i < 58 := by
  unfold dg
  rw [List.getD_eq_getElem?_getD, List.getElem?_eq_getElem (show ds.length - 1 - i < ds.length by omega)]
  exact h _ (List.getElem_mem _)
theorem beL_dg (ds : List Nat) : beL (dg ds) 0 ds.length = ds := by
  apply List.ext_getElem?
  intro j
  unfold beL
  by_cases hj : j < ds.length
  · rw [List.getElem?_map, List.getElem?_reverse (by simpa using hj), List.length_range, List.getElem?_range (by omega), List.getElem?_eq_getElem hj]
    show some (dg ds (0 + (ds.length - 1 - j))) = _
    unfold dg
    rw [List.getD_eq_getElem?_getD, show ds.length - 1 - (0 + (ds.length - 1 - j)) = j by omega, List.getElem?_eq_getElem hj]
    rfl
  · rw [List.getElem?_eq_none (by simp; omega), List.getElem?_eq_none (by omega)]
theorem be_dg (ds : List Nat) : be 58 (dg ds) 0 ds.length = val 58 ds := by rw [← val_beL, beL_dg]
/-- The top digit of a normal numeral is not zero. -/
theorem dg_top (ds : List Nat) (hd : ∀ d ∈ ds, d < 58) (hn : Norm 58 ds) (h0 : 0 < ds.length) : dg ds 0 ≠ 0 := by
  intro hz
  obtain ⟨k, hk⟩ : ∃ k, ds.length = k + 1 := ⟨ds.length - 1, by omega⟩
  have e : val 58 ds = be 58 (dg ds) 1 k := by
    rw [← be_dg, hk]
    have aux : ∀ m, be 58 (dg ds) 0 (m + 1) = dg ds 0 * 58 ^ m + be 58 (dg ds) 1 m := by
      intro m
      induction m with
      | zero => simp [be]
      | succ m ih =>
        rw [be_succ, ih, be_succ, Nat.pow_succ, Nat.add_mul, Nat.zero_add, Nat.add_comm 1 m, ← Nat.mul_assoc]
        omega
    rw [aux, hz]
    omega
  have hlt := be_lt 58 (dg ds) 1 k (fun i hi => dg_lt ds hd (1 + i) (by omega))
  rcases hn with hn | hn
  · rw [hn] at h0; simp at h0
  · rw [hk, Nat.add_sub_cancel] at hn
    omega

/-- The text's bytes. -/
theorem encL_len (zc : Nat) (ds : List Nat) : (encL zc ds).length = zc + ds.length := by simp [encL]
theorem encL_at (zc : Nat) (ds : List Nat) (j : Nat) (h : j < (encL zc ds).length) : (encL zc ds)[j] = if j < zc then 49 else alpha (dg ds (j - zc)) := by
  have e := encF_list zc ds
  have h2 : j < zc + ds.length := by rw [encL_len] at h; exact h
  have h3 : (encL zc ds)[j]? = some (encF zc ds j) := by
    rw [← e, List.getElem?_map, List.getElem?_range h2]; rfl
  rw [List.getElem?_eq_getElem h] at h3
  simp only [Option.some.injEq] at h3
  rw [h3]
  unfold encF dg
  split
  · rfl
  · rw [show zc + ds.length - 1 - j = ds.length - 1 - (j - zc) by omega]
theorem encL_byte (zc : Nat) (ds : List Nat) (hd : ∀ d ∈ ds, d < 58) : ∀ d ∈ encL zc ds, d < 256 := by
  intro d h
  unfold encL at h
  rcases List.mem_append.1 h with h | h
  · have := List.eq_of_mem_replicate h; omega
  · obtain ⟨x, hx, rfl⟩ := List.mem_map.1 h
    exact alpha_byte x (hd x (List.mem_reverse.1 hx))

/-- What the decoder is told of the string. -/
structure IsEnc (s : ByteArray) (zc : Nat) (ds : List Nat) : Prop where
  size : s.size = zc + ds.length
  one : ∀ j (h : j < s.size), j < zc → ((s[j]'h).toNat : Int) = 49
  dig : ∀ j (h : j < s.size), zc ≤ j → ((s[j]'h).toNat : Int) = (alpha (dg ds (j - zc)) : Nat)
theorem isEnc (zc : Nat) (ds : List Nat) (hd : ∀ d ∈ ds, d < 58) : IsEnc (strOf (encL zc ds)) zc ds := by
  have hb := encL_byte zc ds hd
  refine ⟨by rw [strOf_size, encL_len], fun j h hj => ?_, fun j h hj => ?_⟩
  · rw [strOf_at _ hb j h (by rw [strOf_size] at h; exact h), encL_at, if_pos hj]; rfl
  · rw [strOf_at _ hb j h (by rw [strOf_size] at h; exact h), encL_at, if_neg (by omega)]

/-- The bytes that the decoder holds after j digits. -/
def DoR (w : World) (ds : List Nat) (j : Nat) (v : Value) (wr : World) : Prop :=
  ∃ bs g cp, v = .slice (some ⟨g, 0, none⟩) bs.length cp ∧ Own wr w.heap.size v bs ∧ (∀ d ∈ bs, d < 256) ∧ Norm 256 bs ∧ val 256 bs = be 58 (dg ds) 0 j ∧ Below w.heap.size w wr

theorem DpR.done {w wi : World} {ds : List Nat} {j : Nat} {v : Value} {bs : List Nat} (h : DpR w (dg ds j + 58 * val 256 bs) v 0 wi) (hv : val 256 bs = be 58 (dg ds) 0 j) : DoR w ds (j + 1) v wi := by
  obtain ⟨cur, g, cp, h1, h2, h3, h4, h5, h6⟩ := h
  refine ⟨cur, g, cp, h1, h2, h3, h5 rfl, ?_, h6⟩
  rw [Nat.mul_zero, Nat.add_zero] at h4
  rw [h4, hv, be_succ, Nat.zero_add]
  omega

theorem bytes_le (bs : List Nat) (n : Nat) (h : Norm 256 bs) (hv : val 256 bs < 58 ^ n) : bs.length ≤ n := by
  rcases h with rfl | h
  · simp
  · have h1 : 58 ^ n ≤ 256 ^ n := Nat.pow_le_pow_left (by decide) n
    have h2 : bs.length - 1 < n := pow_lt_of (b := 256) (by decide) (by omega)
    omega

def outF (zc : Nat) (bs : List Nat) (k j : Nat) : Nat := if j < zc then 0 else if j < zc + k then bs.getD (bs.length - 1 - (j - zc)) 0 else 0
theorem out_step {w : World} {b zc k : Nat} {bs : List Nat} (h : w.rowIs b 5 (zc + bs.length) (fun j => bv (outF zc bs k j))) (hk : k < bs.length) :
    (w.setCell ⟨b, zc + k, none⟩ (.int .u8 ((bs.getD (bs.length - 1 - k) 0 : Nat) : Int))).rowIs b 5 (zc + bs.length) (fun j => bv (outF zc bs (k + 1) j)) := by
  refine (h.set _ _).congr fun j hj => ?_
  unfold outF
  by_cases e : j = zc + k
  · rw [if_pos e, if_neg (by omega), if_pos (by omega), e, Nat.add_sub_cancel_left]
    rfl
  · rw [if_neg e]
    by_cases h1 : j < zc
    · rw [if_pos h1, if_pos h1]
    · rw [if_neg h1, if_neg h1]
      by_cases h2 : j < zc + k
      · rw [if_pos h2, if_pos (by omega)]
      · rw [if_neg h2, if_neg (by omega)]

def DecP (w : World) (zc : Nat) (bs : List Nat) (e : Ending) (w' : World) : Prop :=
  ∃ g, e = .returned (.tuple #[.slice (some ⟨g, 0, none⟩) (zc + bs.length) (zc + bs.length), .bool true]) ∧ w'.rowIs g 5 (zc + bs.length) (fun j => bv (outF zc bs bs.length j)) ∧ Below w.heap.size w w'
def DecQ (w : World) (zc : Nat) (ds : List Nat) (e : Ending) (w' : World) : Prop :=
  ∃ bs, (∀ d ∈ bs, d < 256) ∧ Norm 256 bs ∧ val 256 bs = val 58 ds ∧ DecP w zc bs e w'

set_option maxHeartbeats 4000000 in
set_option maxRecDepth 100000 in
theorem dec_any (s : ByteArray) (zc : Nat) (ds : List Nat) (w : World) (hs : IsEnc s zc ds) (hd : ∀ d ∈ ds, d < 58) (hn : Norm 58 ds) (hsz : s.size ≤ 20000) :
    Calls Try.prog 11 #[.string s] w fun e w' => DecQ w zc ds e w' := by
  have HS := hide hs
  have HD := hide hd
  have HN := hide hn
  have hsize := hs.size
  have hs1 : zc + ds.length ≤ s.size := by omega
  have hs2 : s.size ≤ zc + ds.length := by omega
  have hmk1 := fun w => make_cap (s.size : Int) (by omega) (by omega) w
  rw [Int.toNat_natCast] at hmk1
  have HSTART : Hid (DoR w ds 0 (.slice (some ⟨w.heap.size, 0, none⟩) 0 s.size) (w.alloc (.cells (madeCells #[.int .u8 0] s.size) 5))) :=
    ⟨[], w.heap.size, s.size, rfl, own_made w s.size (by unfold maxLen; omega), fun d hd => (by cases hd), .inl rfl, rfl, (Below.refl _ _).alloc (Nat.le_refl _) _⟩
  clear hs hd hn hsize
  go_enter Try.func11, Try.ntmps11
  go_wp2
  go_loop [4] (fun i => ∃ k : Nat, k ≤ zc ∧ i = .int .i64 k) (fun i => zc - (intOf i).toNat)
  case atStart => exact ⟨0, by omega, rfl⟩
  case round =>
    obtain ⟨k, hk, rfl⟩ := hrel
    by_cases hlt : k < zc
    · have hks : k < s.size := by omega
      have hck := (unhide HS).one k hks hlt
      clear hmk1
      go_wp2
      go_round
      case rel => exact ⟨k + 1, by omega, by go_num⟩
      case measure => simp [intOf]; omega
    · have hkz : zc = k := by omega
      subst hkz
      have hcase : (zc < s.size ∧ ∃ h : zc < s.size, (((s[zc]'h).toNat : Int) == 49) = false) ∨ ¬ zc < s.size := by
        by_cases h : zc < s.size
        · refine .inl ⟨h, h, ?_⟩
          rw [(unhide HS).dig zc h (Nat.le_refl _), Nat.sub_self, beq_eq_false_iff_ne]
          intro he
          have h1 := dg_top ds (unhide HD) (unhide HN) (by omega)
          have h2 := dg_lt ds (unhide HD) 0 (by omega)
          have h3 : alpha 0 = 49 := rfl
          have := alpha_inj (dg ds 0) 0 h2 (by decide) (by omega)
          exact h1 this
        · exact .inr h
      rcases hcase with ⟨hlz, hlz2, hne⟩ | hlz
      · go_wp2
        clear hmk1
        go_loopw [2, 3, 5, 6] (fun t2 t3 v iv wr => ∃ j : Nat, j ≤ ds.length ∧ t2 = .slice none 0 0 ∧ t3 = .bool false ∧ iv = .int .i64 ((zc + j : Nat) : Int) ∧ DoR w ds j v wr) (fun _ _ _ iv _ => s.size - (intOf iv).toNat)
        case atStart => exact ⟨0, by omega, rfl, rfl, rfl, unhide HSTART⟩
        case round =>
          rename World => w1
          obtain ⟨j, hj, rfl, rfl, rfl, hout⟩ := hrel
          clear HSTART
          obtain ⟨bs, g, cd, rfl, hown, hdig, hnorm, hval, hbel⟩ := hout
          have hbl : bs.length ≤ 20000 := by
            have := bytes_le bs j hnorm (by rw [hval]; exact be_lt 58 (dg ds) 0 j (fun i hi => by rw [Nat.zero_add]; exact dg_lt ds (unhide HD) i (by omega)))
            omega
          by_cases hjl : j < ds.length
          · have hzj : zc + j < s.size := by omega
            have hck := (unhide HS).dig (zc + j) hzj (by omega)
            rw [Nat.add_sub_cancel_left] at hck
            have hd58 := dg_lt ds (unhide HD) j hjl
            obtain ⟨c, hc⟩ : ∃ c, dg ds j = c := ⟨_, rfl⟩
            rw [hc] at hck hd58
            have HC := hide hc
            have HIN := hide (DnR.start (c := c) hown hbel)
            have hgB : w.heap.size ≤ g := by
              rcases hown.shape with ⟨h, _⟩ | ⟨g', c', h, hb, _⟩
              · simp at h
              · simp at h; omega
            have HDIG := hide hdig
            have HNORM := hide hnorm
            have HVAL := hide hval
            clear hc hown hdig hnorm hval hbel
            go_wp2_with (go_at_call 15; refine (index_any c hd58 _).mono ?_; rintro e w2 ⟨rfl, hw2⟩; subst w2)
            go_loopw [8, 9] (fun cyv i wi => ∃ i' cy : Nat, i' ≤ bs.length ∧ i = .int .i64 i' ∧ cyv = .int .i64 cy ∧ cy < 58 ∧ DnR w bs c (.slice (some ⟨g, 0, none⟩) bs.length cd) i' cy wi) (fun _ i _ => bs.length - (intOf i).toNat)
            case atStart => exact ⟨0, c, by omega, rfl, rfl, hd58, unhide HIN⟩
            case round =>
              rename World => wi
              obtain ⟨i, cy, hi, rfl, rfl, hcy, hin⟩ := hrel
              clear HIN hck
              by_cases hil : i < bs.length
              · obtain ⟨hci, hfi⟩ := hin.at hil
                have hd256 := unhide HDIG _ (List.getElem_mem hil)
                have hst := hin.step hil hgB
                obtain ⟨d, hd⟩ : ∃ d, bs[i] = d := ⟨_, rfl⟩
                rw [hd] at hci hd256 hst
                have e1 : (((cy + d * 58) % 256 : Nat) : Int) = ((cy : Int) + (d : Int) * 58) % 256 := by omega
                unfold bv at hst
                rw [e1] at hst
                have HN2 := hide hst
                clear hst hin hd e1
                go_wp2
                go_roundw
                case rel => exact ⟨i + 1, (cy + d * 58) / 256, by omega, by go_num, by go_num, by omega, unhide HN2⟩
                case measure => simp [intOf]; omega
              · have hie : i = bs.length := by omega
                subst hie
                have HTOP := hide (hin.done (unhide HNORM))
                have hX : c + 58 * val 256 bs < 58 ^ (j + 1) := by
                  rw [unhide HVAL]
                  have := be_lt 58 (dg ds) 0 (j + 1) (fun i hi => by rw [Nat.zero_add]; exact dg_lt ds (unhide HD) i (by omega))
                  rw [be_succ, Nat.zero_add, unhide HC] at this
                  omega
                have HX := hide hX
                clear hin hX
                go_wp2
                go_loopw [5, 8] (fun v cyv wi => ∃ cy : Nat, cyv = .int .i64 cy ∧ cy < 58 ∧ DpR w (c + 58 * val 256 bs) v cy wi) (fun _ cyv _ => (intOf cyv).toNat)
                case atStart => exact ⟨cy, rfl, hcy, unhide HTOP⟩
                case round =>
                  rename World => wt
                  obtain ⟨ct, rfl, hct, htop⟩ := hrel
                  clear HTOP
                  by_cases hc0 : 0 < ct
                  · obtain ⟨cur, g2, c2, rfl, hown2, hlen2, hdig2, hval2, hbel2⟩ := htop.lt hc0 (unhide HX)
                    have HOW2 := hide hown2
                    have HD2 := hide hdig2
                    have HV2 := hide hval2
                    have HB2 := hide hbel2
                    have hsz2 : w.heap.size ≤ wt.heap.size := hbel2.size
                    have hl2 : cur.length ≤ 9999999 := by omega
                    clear hown2 hdig2 hval2 hbel2 htop
                    go_wp2_with (at_builtin; refine wpList_app_one (by rfl) _ _ (by rfl) w.heap.size _ cur (ct % 256) _ wt (by rfl) (by rfl) HOW2 hsz2 hl2 (by omega) ?_)
                    intro v' w3 R1 R2
                    have R3 := hide (DpR.push (unhide HD2) (unhide HV2) hc0 (unhide R1) ((unhide HB2).trans (unhide R2)))
                    go_wp2
                    go_roundw
                    case rel => exact ⟨ct / 256, by go_num, by omega, unhide R3⟩
                    case measure => simp [intOf]; omega
                  · have hct0 : ct = 0 := by omega
                    subst hct0
                    have HO : Hid (DoR w ds (j + 1) _ wt) := DpR.done (bs := bs) (by rw [unhide HC]; exact htop) (unhide HVAL)
                    clear htop
                    go_wp2
                    go_roundw
                    case rel => exact ⟨j + 1, by omega, rfl, rfl, by go_num, unhide HO⟩
                    case measure => simp [intOf]; omega
          · have hje : j = ds.length := by omega
            subst hje
            have HDEC : Hid ((∀ d ∈ bs, d < 256) ∧ Norm 256 bs ∧ val 256 bs = val 58 ds) := ⟨hdig, hnorm, by rw [hval, be_dg]⟩
            have HRC : Hid (∀ j, j < bs.length → w1.cell? ⟨g, j, none⟩ = some (.int .u8 ((bs.getD j 0 : Nat) : Int))) := fun j hj => by
              rw [hown.cell j hj, List.getD_eq_getElem?_getD, List.getElem?_eq_getElem hj]
              rfl
            have hmk3 := fun w => make_full ((zc : Int) + (bs.length : Int)) (zc + bs.length) (by omega) (by omega) w
            have HROW6 : Hid ((w1.alloc (.cells (madeCells #[.int .u8 0] (zc + bs.length)) 5)).rowIs w1.heap.size 5 (zc + bs.length) (fun j => bv (outF zc bs 0 j))) := (World.rowIs_made w1 (.int .u8 0) (zc + bs.length) 5).congr (fun i hi => by
              have : outF zc bs 0 i = 0 := by
                unfold outF
                by_cases h1 : i < zc
                · rw [if_pos h1]
                · rw [if_neg h1, if_neg (by omega)]
              rw [this]; rfl)
            have HBEL6 : Hid (Below w1.heap.size w1 (w1.alloc (.cells (madeCells #[.int .u8 0] (zc + bs.length)) 5))) := (Below.refl _ _).alloc (Nat.le_refl _) _
            have HB := hide hbel
            have hwsz : w.heap.size ≤ w1.heap.size := hbel.size
            clear hown hdig hnorm hval hbel
            go_wp2
            clear hmk3
            go_loopw [11] (fun i wr => ∃ p : Nat, p ≤ bs.length ∧ i = .int .i64 p ∧ wr.rowIs w1.heap.size 5 (zc + bs.length) (fun j => bv (outF zc bs p j)) ∧ Below w1.heap.size w1 wr) (fun i _ => bs.length - (intOf i).toNat)
            case atStart => exact ⟨0, by omega, rfl, unhide HROW6, unhide HBEL6⟩
            case round =>
              rename World => wt
              obtain ⟨p, hp, rfl, hrw, hb⟩ := hrel
              clear HROW6 HBEL6
              by_cases hpl : p < bs.length
              · have hcd := cell_later hb (unhide HRC (bs.length - 1 - p) (by omega))
                obtain ⟨v2, h2⟩ : ∃ v, wt.cell? ⟨w1.heap.size, zc + p, none⟩ = some v := ⟨_, hrw.cell (by omega)⟩
                have h3 := hrw.frozen (zc + p)
                have hts := out_step hrw hpl
                obtain ⟨d, hd⟩ : ∃ d, bs.getD (bs.length - 1 - p) 0 = d := ⟨_, rfl⟩
                rw [hd] at hcd hts
                have HN2 := hide hts
                have HBN := hide hb
                clear hrw hb hts hd
                go_wp2
                go_roundw
                case rel => exact ⟨p + 1, by omega, by go_num, unhide HN2, (unhide HBN).setCell (Nat.le_refl _) _⟩
                case measure => simp [intOf]; omega
              · have hpe : p = bs.length := by omega
                subst hpe
                have HRF := hide hrw
                have HBF : Hid (Below w.heap.size w wt) := (unhide HB).trans (hb.mono hwsz)
                clear hrw hb
                go_wp2
                go_ret2
                exact ⟨bs, (unhide HDEC).1, (unhide HDEC).2.1, (unhide HDEC).2.2, _, rfl, unhide HRF, unhide HBF⟩
      · go_wp2
        clear hmk1
        go_loopw [2, 3, 5, 6] (fun t2 t3 v iv wr => ∃ j : Nat, j ≤ ds.length ∧ t2 = .slice none 0 0 ∧ t3 = .bool false ∧ iv = .int .i64 ((zc + j : Nat) : Int) ∧ DoR w ds j v wr) (fun _ _ _ iv _ => s.size - (intOf iv).toNat)
        case atStart => exact ⟨0, by omega, rfl, rfl, rfl, unhide HSTART⟩
        case round =>
          rename World => w1
          obtain ⟨j, hj, rfl, rfl, rfl, hout⟩ := hrel
          clear HSTART
          obtain ⟨bs, g, cd, rfl, hown, hdig, hnorm, hval, hbel⟩ := hout
          have hbl : bs.length ≤ 20000 := by
            have := bytes_le bs j hnorm (by rw [hval]; exact be_lt 58 (dg ds) 0 j (fun i hi => by rw [Nat.zero_add]; exact dg_lt ds (unhide HD) i (by omega)))
            omega
          by_cases hjl : j < ds.length
          · exfalso; omega
          · have hje : j = ds.length := by omega
            subst hje
            have HDEC : Hid ((∀ d ∈ bs, d < 256) ∧ Norm 256 bs ∧ val 256 bs = val 58 ds) := ⟨hdig, hnorm, by rw [hval, be_dg]⟩
            have HRC : Hid (∀ j, j < bs.length → w1.cell? ⟨g, j, none⟩ = some (.int .u8 ((bs.getD j 0 : Nat) : Int))) := fun j hj => by
              rw [hown.cell j hj, List.getD_eq_getElem?_getD, List.getElem?_eq_getElem hj]
              rfl
            have hmk3 := fun w => make_full ((zc : Int) + (bs.length : Int)) (zc + bs.length) (by omega) (by omega) w
            have HROW6 : Hid ((w1.alloc (.cells (madeCells #[.int .u8 0] (zc + bs.length)) 5)).rowIs w1.heap.size 5 (zc + bs.length) (fun j => bv (outF zc bs 0 j))) := (World.rowIs_made w1 (.int .u8 0) (zc + bs.length) 5).congr (fun i hi => by
              have : outF zc bs 0 i = 0 := by
                unfold outF
                by_cases h1 : i < zc
                · rw [if_pos h1]
                · rw [if_neg h1, if_neg (by omega)]
              rw [this]; rfl)
            have HBEL6 : Hid (Below w1.heap.size w1 (w1.alloc (.cells (madeCells #[.int .u8 0] (zc + bs.length)) 5))) := (Below.refl _ _).alloc (Nat.le_refl _) _
            have HB := hide hbel
            have hwsz : w.heap.size ≤ w1.heap.size := hbel.size
            clear hown hdig hnorm hval hbel
            go_wp2
            clear hmk3
            go_loopw [11] (fun i wr => ∃ p : Nat, p ≤ bs.length ∧ i = .int .i64 p ∧ wr.rowIs w1.heap.size 5 (zc + bs.length) (fun j => bv (outF zc bs p j)) ∧ Below w1.heap.size w1 wr) (fun i _ => bs.length - (intOf i).toNat)
            case atStart => exact ⟨0, by omega, rfl, unhide HROW6, unhide HBEL6⟩
            case round =>
              rename World => wt
              obtain ⟨p, hp, rfl, hrw, hb⟩ := hrel
              clear HROW6 HBEL6
              by_cases hpl : p < bs.length
              · have hcd := cell_later hb (unhide HRC (bs.length - 1 - p) (by omega))
                obtain ⟨v2, h2⟩ : ∃ v, wt.cell? ⟨w1.heap.size, zc + p, none⟩ = some v := ⟨_, hrw.cell (by omega)⟩
                have h3 := hrw.frozen (zc + p)
                have hts := out_step hrw hpl
                obtain ⟨d, hd⟩ : ∃ d, bs.getD (bs.length - 1 - p) 0 = d := ⟨_, rfl⟩
                rw [hd] at hcd hts
                have HN2 := hide hts
                have HBN := hide hb
                clear hrw hb hts hd
                go_wp2
                go_roundw
                case rel => exact ⟨p + 1, by omega, by go_num, unhide HN2, (unhide HBN).setCell (Nat.le_refl _) _⟩
                case measure => simp [intOf]; omega
              · have hpe : p = bs.length := by omega
                subst hpe
                have HRF := hide hrw
                have HBF : Hid (Below w.heap.size w wt) := (unhide HB).trans (hb.mono hwsz)
                clear hrw hb
                go_wp2
                go_ret2
                exact ⟨bs, (unhide HDEC).1, (unhide HDEC).2.1, (unhide HDEC).2.2, _, rfl, unhide HRF, unhide HBF⟩
end Go.Proofs.Qxb6601650a
