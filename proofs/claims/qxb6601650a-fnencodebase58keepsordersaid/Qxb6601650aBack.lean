/-
  The encoder's text decodes back: the plain laws.
-/
import Derived.Test.Qxb6601650aDec
import Derived.WalkSmall
namespace Go.Proofs.Qxb6601650a
open Go.RowKit
set_option linter.unusedVariables false

theorem pow_tight (m : Nat) : 256 ^ m ≤ 58 ^ (m * 138 / 100 + 1) := by
  have h0 : (256 : Nat) ^ 100 ≤ 58 ^ 138 := by decide +kernel
  have h1 : (256 ^ m) ^ 100 ≤ (58 ^ (m * 138 / 100 + 1)) ^ 100 := by
    rw [← Nat.pow_mul, ← Nat.pow_mul, Nat.mul_comm m 100, Nat.pow_mul]
    refine Nat.le_trans (Nat.pow_le_pow_left h0 m) ?_
    rw [← Nat.pow_mul]
    exact Nat.pow_le_pow_right (by decide) (by omega)
  exact (Nat.pow_le_pow_iff_left (by decide)).1 h1

theorem digits_tight (xs : List Nat) (m : Nat) (h : Norm 58 xs) (hv : val 58 xs < 256 ^ m) : xs.length ≤ m * 138 / 100 + 1 := by
  rcases h with rfl | h
  · simp
  · have h1 := pow_tight m
    have h2 : xs.length - 1 < m * 138 / 100 + 1 := pow_lt_of (b := 58) (by decide) (by omega)
    omega

theorem Enc.upper {n : Nat} {z : Nat → Nat} {zc : Nat} {ds : List Nat} (h : Enc n z zc ds) (hz : ∀ i, i < n → z i < 256) : zc + ds.length ≤ n * 138 / 100 + 1 := by
  have h1 := digits_tight ds (n - zc) h.norm (by rw [h.value]; exact be_lt 256 z zc (n - zc) (fun i hi => hz _ (by omega)))
  have := h.lead.le
  omega

theorem Enc.normal {n : Nat} {z : Nat → Nat} {zc : Nat} {ds : List Nat} (h : Enc n z zc ds) : Norm 256 (beL z zc (n - zc)) := by
  by_cases h0 : zc < n
  · right
    obtain ⟨k, hk⟩ : ∃ k, n - zc = k + 1 := ⟨n - zc - 1, by omega⟩
    rw [val_beL, beL_length, hk]
    exact be_ge 256 z zc k (h.lead.stop h0)
  · left
    rw [show n - zc = 0 by omega]; rfl

theorem Enc.lower {n : Nat} {z : Nat → Nat} {zc : Nat} {ds : List Nat} (h : Enc n z zc ds) : n ≤ zc + ds.length := by
  by_cases h0 : zc < n
  · obtain ⟨k, hk⟩ : ∃ k, n - zc = k + 1 := ⟨n - zc - 1, by omega⟩
    have h1 := be_ge 256 z zc k (h.lead.stop h0)
    rw [← hk, ← h.value] at h1
    have h2 := val_lt 58 (by decide) ds h.dig
    have h3 : 58 ^ ds.length ≤ 256 ^ ds.length := Nat.pow_le_pow_left (by decide) _
    have h4 : k < ds.length := pow_lt_of (b := 256) (by decide) (by omega)
    omega
  · have := h.lead.le
    omega

theorem beL_mem {z : Nat → Nat} {s k d : Nat} (h : d ∈ beL z s k) : ∃ i, i < k ∧ d = z (s + i) := by
  unfold beL at h
  obtain ⟨i, hi, rfl⟩ := List.mem_map.1 h
  exact ⟨i, by simpa using hi, rfl⟩

theorem beL_getD (z : Nat → Nat) (s k i : Nat) (h : i < k) : (beL z s k).getD ((beL z s k).length - 1 - i) 0 = z (s + i) := by
  rw [beL_length]
  unfold beL
  rw [List.getD_eq_getElem?_getD, List.getElem?_map, List.getElem?_reverse (by simp; omega), List.length_range, List.getElem?_range (by omega), show k - 1 - (k - 1 - i) = i by omega]
  rfl

/-- What the decoder gives back are the bytes. -/
theorem Enc.back {n : Nat} {z : Nat → Nat} {zc : Nat} {ds bs : List Nat} (h : Enc n z zc ds) (hz : ∀ i, i < n → z i < 256) (h1 : ∀ d ∈ bs, d < 256) (h2 : Norm 256 bs) (h3 : val 256 bs = val 58 ds) :
    zc + bs.length = n ∧ ∀ j, j < n → outF zc bs bs.length j = z j := by
  have hle := h.lead.le
  have e : bs = beL z zc (n - zc) := norm_unique 256 (by decide) bs _ h1 (fun d hd => by
    obtain ⟨i, hi, rfl⟩ := beL_mem hd
    exact hz _ (by omega)) h2 h.normal (by rw [h3, h.value, val_beL])
  subst e
  rw [beL_length]
  refine ⟨by omega, fun j hj => ?_⟩
  unfold outF
  by_cases hjz : j < zc
  · rw [if_pos hjz, h.lead.zero j hjz]
  · rw [if_neg hjz, if_pos (by omega), beL_getD z zc (n - zc) (j - zc) (by omega), show zc + (j - zc) = j by omega]

/-- What the law reads behind the decoder. -/
def BackP (w : World) (n : Nat) (z : Nat → Nat) (e : Ending) (w' : World) : Prop :=
  ∃ g, e = .returned (.tuple #[.slice (some ⟨g, 0, none⟩) n n, .bool true]) ∧ (∀ j, j < n → w'.cell? ⟨g, j, none⟩ = some (.int .u8 (z j : Nat))) ∧ Below w.heap.size w w'
theorem back_any {n : Nat} {z : Nat → Nat} {zc : Nat} {ds : List Nat} (h : Enc n z zc ds) (hn : n ≤ 4096) (hz : ∀ i, i < n → z i < 256) (w : World) :
    Calls Try.prog 11 #[.string (strOf (encL zc ds))] w fun e w' => BackP w n z e w' := by
  have hu := h.upper hz
  refine (dec_any _ zc ds w (isEnc zc ds h.dig) h.dig h.norm (by rw [strOf_size, encL_len]; omega)).mono ?_
  rintro e w1 ⟨bs, h1, h2, h3, g, rfl, hrow, hb⟩
  obtain ⟨e1, e2⟩ := h.back hz h1 h2 h3
  rw [e1] at hrow ⊢
  exact ⟨g, rfl, fun j hj => by rw [hrow.cell hj]; unfold bv; rw [e2 j hj], hb⟩
end Go.Proofs.Qxb6601650a
