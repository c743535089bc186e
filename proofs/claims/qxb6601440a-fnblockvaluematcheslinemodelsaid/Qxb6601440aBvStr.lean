/-
  The strings that ZZBlockValue answers, and what the chomping law asks of them: no Go in sight.
-/
import Derived.Test.Qxb6601440aBvG
import Derived.Lib.Strings
import Derived.Lib.IndexBytes
import Derived.Laws.Concat
namespace Go.Proofs.Qxb6601440a.Bv
open Go.RowKit
set_option linter.unusedVariables false

theorem strOf_data (xs : List Int) : (strOf xs).data.toList = xs.map (fun n => UInt8.ofNat n.toNat) := by simp [strOf]
theorem strOf_size (xs : List Int) : (strOf xs).size = xs.length := by rw [Lib.size_eq, strOf_data, List.length_map]
theorem strOf_toList (xs : List Int) : (strOf xs).toList = xs.map (fun n => UInt8.ofNat n.toNat) := by rw [Lib.toList_data, strOf_data]
theorem strOf_append (xs ys : List Int) : strOf xs ++ strOf ys = strOf (xs ++ ys) := by
  unfold strOf
  rw [ByteArray.mk_append_mk, List.map_append]

/-- What the law asks of the three strings. -/
structure Facts (E : Nat → Bool) (n : Nat) (sS sC sK : ByteArray) : Prop where
  len : sK.size ≤ 9999999
  none1 : lastC E n < 0 → sS.toList.isEmpty = true
  none2 : lastC E n < 0 → sC.toList.isEmpty = true
  clip : 0 ≤ lastC E n → (sC.toList == (sS ++ ⟨#[10]⟩).toList) = true
  le : sC.size ≤ sK.size
  le2 : sS.size ≤ sK.size
  pre : ((sK.extract 0 sC.size).toList == sC.toList) = true
  brk : ∀ i (h : i < sK.size), sC.size ≤ i → ((sK[i]'h).toNat : Int) = 10
  add1 : lastC E n < 0 → (sK.size : Int) - sS.size = n
  add2 : 0 ≤ lastC E n → (sK.size : Int) - sS.size = n - lastC E n

theorem facts (f : Bool) (E : Nat → Bool) (L : Nat → Nat) (z : Nat → Nat → Int) (n : Nat) (hn : n ≤ 65536) (hs : sumL L n ≤ 1048576) :
    Facts E n (strOf (blockL f E L z n 45)) (strOf (blockL f E L z n 0)) (strOf (blockL f E L z n 43)) := by
  obtain ⟨hb1, hb2⟩ := lastC_bd E n
  have hbd := bs_bd f E L z (lastC E n + 1).toNat
  have hsm := sumL_mono L (show (lastC E n + 1).toNat ≤ n by omega)
  have hbody : lastC E n < 0 → (bs f E L z (lastC E n + 1).toNat).1 = [] := fun h => by
    rw [show (lastC E n + 1).toNat = 0 by omega]; rfl
  unfold blockL
  generalize hbo : (bs f E L z (lastC E n + 1).toNat).1 = body at *
  have t45 : tcount 45 (lastC E n) n = 0 := by unfold tcount; rw [if_pos rfl]
  have t0 : tcount 0 (lastC E n) n = if lastC E n < 0 then 0 else 1 := by unfold tcount; rw [if_neg (by omega), if_pos rfl]
  have t43 : tcount 43 (lastC E n) n = if lastC E n < 0 then n else n - (lastC E n).toNat := by unfold tcount; rw [if_neg (by omega), if_neg (by omega)]
  generalize tcount 43 (lastC E n) n = tk at *
  generalize tcount 0 (lastC E n) n = tc at *
  rw [t45]
  have hct : tc ≤ tk := by rw [t0, t43]; split <;> omega
  have htk : tk ≤ n := by rw [t43]; split <;> omega
  have hsp : body ++ List.replicate tk (10 : Int) = body ++ List.replicate tc 10 ++ List.replicate (tk - tc) 10 := by
    rw [List.append_assoc, List.replicate_append_replicate, show tc + (tk - tc) = tk by omega]
  refine ⟨?_, ?_, ?_, ?_, ?_, ?_, ?_, ?_, ?_, ?_⟩
  · rw [strOf_size]; simp; omega
  · intro h; rw [strOf_toList, hbody h]; rfl
  · intro h; rw [strOf_toList, hbody h, t0, if_pos h]; rfl
  · intro h
    have e : (⟨#[10]⟩ : ByteArray) = strOf [10] := rfl
    rw [e, strOf_append, t0, if_neg (by omega)]
    simp
  · rw [strOf_size, strOf_size]; simp; omega
  · rw [strOf_size, strOf_size]; simp
  · rw [Lib.extract_toList, strOf_data, strOf_toList, strOf_size, hsp, beq_iff_eq, List.map_append, List.drop_zero, Nat.sub_zero]
    exact List.take_left' (by rw [List.length_map])
  · intro i hi hci
    rw [strOf_size] at hci
    have hd := Lib.data_getElem? (strOf (body ++ List.replicate tk 10)) i hi
    rw [strOf_data] at hd
    rw [show List.map (fun n : Int => UInt8.ofNat n.toNat) (body ++ List.replicate tk 10) = List.map (fun n : Int => UInt8.ofNat n.toNat) (body ++ List.replicate tc 10) ++ List.map (fun n : Int => UInt8.ofNat n.toNat) (List.replicate (tk - tc) 10) by rw [← List.map_append, ← hsp],
      List.getElem?_append_right (by rw [List.length_map]; exact hci), List.map_replicate, List.getElem?_replicate] at hd
    split at hd
    · simp only [Option.some.injEq] at hd
      rw [← hd]; rfl
    · cases hd
  · intro h
    rw [strOf_size, strOf_size, t43, if_pos h, hbody h]
    simp
  · intro h
    rw [strOf_size, strOf_size, t43, if_neg (by omega)]
    simp
    omega

theorem keep_same (f : Bool) (E : Nat → Bool) (L : Nat → Nat) (z : Nat → Nat → Int) (n : Nat) (ch : Int) (h1 : ¬ ch = 45) (h2 : ¬ ch = 0) : blockL f E L z n ch = blockL f E L z n 43 := by
  have e : tcount ch (lastC E n) n = tcount 43 (lastC E n) n := by simp [tcount, h1, h2]
  unfold blockL
  rw [e]

theorem zzbv_s (a a2 : Option Addr) (n c1 c2 : Nat) (A : Nat → Option Addr) (L C : Nat → Nat) (z : Nat → Nat → Int) (E : Nat → Bool) (f : Bool) (ch : Int) (w : World) (s : ByteArray) (hs : Hid (strOf (blockL f E L z n ch) = s)) (hn : n ≤ 65536)
    (ht : Hid (TX w a n A L C z)) (hf : Hid (FL w a2 n E)) (hw : Hid (wellFormed n n L E)) (hsum : Hid (sumL L n ≤ 1048576)) :
    Calls Try.prog 15 #[.slice a n c1, .slice a2 n c2, .bool f, .int .u8 ch] w fun e w' => e = .returned (.string s) ∧ Below w.heap.size w w' := by
  refine (zzbv_any a a2 n c1 c2 A L C z E f ch w hn (unhide ht) (unhide hf) (unhide hw) (unhide hsum)).mono ?_
  rintro e w' ⟨rfl, h⟩
  exact ⟨by rw [unhide hs], h⟩
end Go.Proofs.Qxb6601440a.Bv
