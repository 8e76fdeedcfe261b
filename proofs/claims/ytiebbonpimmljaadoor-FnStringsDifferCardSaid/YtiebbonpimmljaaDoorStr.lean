/- What String comes to, in the package (both widths), in the thin package and in the reference: the sign, the whole part, a colon, the parts in two digits or four; they make memory and turn nothing that was there. Condition: the library's table of powers of ten reads as it is laid. -/
import Derived.Test.YtiebbonpimmljaaDoorText
namespace Go.Proofs.YtiebbonpimmljaaDoor
open Go.RowKit

def absS (c : Int) : Int := if c < 0 then -c else c
theorem absS_neg {c : Int} (h : c < 0) : absS c = -c := if_pos h
theorem absS_pos {c : Int} (h : ¬ c < 0) : absS c = c := if_neg h
def widN (b : Bool) : Nat := if b then 4 else 2
def strZ (b : Bool) (c : Int) : List UInt8 := (if c < 0 then [45] else []) ++ textL (absS c / oneZ b).toNat (absS c % oneZ b).toNat (widN b)
theorem strZ_pos (b : Bool) (c : Int) (h : ¬ c < 0) : strZ b c = textL (c / oneZ b).toNat (c % oneZ b).toNat (widN b) := by
  unfold strZ; rw [if_neg h, absS_pos h]; rfl
theorem strZ_neg (b : Bool) (c : Int) (h : c < 0) : strZ b c = 45 :: textL (-c / oneZ b).toNat (-c % oneZ b).toNat (widN b) := by
  unfold strZ; rw [if_pos h, absS_neg h]; rfl
theorem i32_and63 (n : Int) : bits .and .i32 n 63 = n % 64 := by
  have h127 : (BitVec.ofInt 32 63).toNat = 2 ^ 6 - 1 := by decide
  have key : (BitVec.ofInt 32 n &&& BitVec.ofInt 32 63).toNat = (n % ((2 ^ 32 : Nat) : Int)).toNat % 2 ^ 6 := by
    rw [BitVec.toNat_and, BitVec.toNat_ofInt, h127, Nat.and_two_pow_sub_one_eq_mod]
  show IntKind.i32.wrap ((BitVec.ofInt 32 n &&& BitVec.ofInt 32 63).toNat : Nat) = n % 64
  rw [key, IntKind.wrap_i32]
  omega
theorem i64_and4095 (n : Int) : bits .and .i64 n 4095 = n % 4096 := by
  have h127 : (BitVec.ofInt 64 4095).toNat = 2 ^ 12 - 1 := by decide
  have key : (BitVec.ofInt 64 n &&& BitVec.ofInt 64 4095).toNat = (n % ((2 ^ 64 : Nat) : Int)).toNat % 2 ^ 12 := by
    rw [BitVec.toNat_and, BitVec.toNat_ofInt, h127, Nat.and_two_pow_sub_one_eq_mod]
  show IntKind.i64.wrap ((BitVec.ofInt 64 n &&& BitVec.ofInt 64 4095).toNat : Nat) = n % 4096
  rw [key, IntKind.wrap_i64]
  omega
theorem pad_len (k : Nat) (u : Nat) (h : u < 100000000000000000000) : (padZ k (Lib.decDigits u)).length ≤ k + 20 := by
  have := len_le u h
  unfold padZ; simp; omega
theorem text_len (a b k : Nat) (ha : a < 100000000000000000000) (hb : b < 100000000000000000000) (hk : k ≤ 4) : (textL a b k).length ≤ 50 := by
  have h1 := len_le a ha
  have h2 := pad_len k b hb
  unfold textL; simp; omega
theorem dash_text (l : List UInt8) : (⟨#[45]⟩ : ByteArray) ++ ⟨l.toArray⟩ = ⟨(45 :: l).toArray⟩ := by
  apply ByteArray.ext; simp
theorem dig_more (u : Nat) (h : 10 ≤ u) : Lib.decDigits u = Lib.decDigits (u / 10) ++ [UInt8.ofNat (48 + u % 10)] := by
  rw [Lib.decDigits, dif_neg (by omega)]
theorem strS_min : strZ false (-2147483648) = [45, 51, 51, 53, 53, 52, 52, 51, 50, 58, 48, 48] := by
  have e : Lib.decDigits 33554432 = [51, 51, 53, 53, 52, 52, 51, 50] := by
    rw [dig_more _ (by decide), dig_more _ (by decide), dig_more _ (by decide), dig_more _ (by decide), dig_more _ (by decide), dig_more _ (by decide), dig_more _ (by decide), Lib.decDigits_one (by decide)]
    decide
  have e0 : Lib.decDigits 0 = [48] := by rw [Lib.decDigits_one (by decide)]; decide
  rw [strZ_neg _ _ (by decide), oneZ_f]
  show 45 :: textL 33554432 0 2 = _
  unfold textL padZ
  rw [e, e0]
  decide
set_option maxHeartbeats 4000000 in
theorem strS_any (x : Int) (h1 : -2147483648 ≤ x) (h2 : x ≤ 2147483647) (w : World) (ht : TabOk w) :
    Calls Tryd.prog 10 #[.int .i32 x] w fun e w' => e = .returned (.string ⟨(strZ false x).toArray⟩) ∧ Below w.heap.size w w' := by
  by_cases hx : x < 0
  · by_cases hm : x = -2147483648
    · have hs : Hid (strZ false x = [45, 51, 51, 53, 53, 52, 52, 51, 50, 58, 48, 48]) := by
        have := strS_min
        rw [← hm] at this
        exact this
      obtain ⟨y, hy⟩ : ∃ y, wrap32 (-x) = y := ⟨_, rfl⟩
      have hy' : y < 0 := by rw [← hy, hm]; unfold wrap32; decide
      clear hm
      go_enter Tryd.func10, Tryd.ntmps10
      go_wp2_with fail
      go_ret
      exact ⟨ret_str (by rw [hs.out]), Below.refl _ _⟩
    · have hs := strZ_neg false x hx
      rw [oneZ_f] at hs
      have hl := text_len (-x / 64).toNat (-x % 64).toNat 2 (by omega) (by omega) (by omega)
      replace hs := Lib.hid hs
      obtain ⟨y, hy⟩ : ∃ y, -x = y := ⟨_, rfl⟩
      have y1 : 0 < y := by omega
      have y2 : y ≤ 2147483647 := by omega
      have ha := i32_and63 y
      rw [hy] at hs hl
      clear hm
      go_enter Tryd.func10, Tryd.ntmps10
      go_wp2_with fail
      refine (text_any (y / 64) (y % 64) 2 (by omega) (by omega) (by omega) (by omega) (by omega) _ ht).mono ?_
      rintro e w1 ⟨rfl, hB⟩
      go_wp2_with fail
      go_ret
      exact ⟨ret_str (by rw [hs.out, dash_text]; rfl), hB⟩
  · have hs := strZ_pos false x hx
    rw [oneZ_f] at hs
    replace hs := Lib.hid hs
    have ha := i32_and63 x
    go_enter Tryd.func10, Tryd.ntmps10
    go_wp2_with fail
    refine (text_any (x / 64) (x % 64) 2 (by omega) (by omega) (by omega) (by omega) (by omega) _ ht).mono ?_
    rintro e w1 ⟨rfl, hB⟩
    go_wp2_with fail
    go_ret
    exact ⟨ret_str (by rw [hs.out]; rfl), hB⟩
theorem strL_min : strZ true (-9223372036854775808) = [45, 50, 50, 53, 49, 55, 57, 57, 56, 49, 51, 54, 56, 53, 50, 52, 56, 58, 48, 48, 48, 48] := by
  have e : Lib.decDigits 2251799813685248 = [50, 50, 53, 49, 55, 57, 57, 56, 49, 51, 54, 56, 53, 50, 52, 56] := by
    rw [dig_more _ (by decide), dig_more _ (by decide), dig_more _ (by decide), dig_more _ (by decide), dig_more _ (by decide), dig_more _ (by decide), dig_more _ (by decide), dig_more _ (by decide), dig_more _ (by decide), dig_more _ (by decide), dig_more _ (by decide), dig_more _ (by decide), dig_more _ (by decide), dig_more _ (by decide), dig_more _ (by decide), Lib.decDigits_one (by decide)]
    decide
  have e0 : Lib.decDigits 0 = [48] := by rw [Lib.decDigits_one (by decide)]; decide
  rw [strZ_neg _ _ (by decide), oneZ_t]
  show 45 :: textL 2251799813685248 0 4 = _
  unfold textL padZ
  rw [e, e0]
  decide
set_option maxHeartbeats 4000000 in
theorem strL_any (x : Int) (h1 : -9223372036854775808 ≤ x) (h2 : x ≤ 9223372036854775807) (w : World) (ht : TabOk w) :
    Calls Tryd.prog 9 #[.int .i64 x] w fun e w' => e = .returned (.string ⟨(strZ true x).toArray⟩) ∧ Below w.heap.size w w' := by
  by_cases hx : x < 0
  · by_cases hm : x = -9223372036854775808
    · have hs : Hid (strZ true x = [45, 50, 50, 53, 49, 55, 57, 57, 56, 49, 51, 54, 56, 53, 50, 52, 56, 58, 48, 48, 48, 48]) := by
        have := strL_min
        rw [← hm] at this
        exact this
      obtain ⟨y, hy⟩ : ∃ y, wrap64 (-x) = y := ⟨_, rfl⟩
      have hy' : y < 0 := by rw [← hy, hm]; unfold wrap64; decide
      clear hm
      go_enter Tryd.func9, Tryd.ntmps9
      go_wp2_with fail
      go_ret
      exact ⟨ret_str (by rw [hs.out]), Below.refl _ _⟩
    · have hs := strZ_neg true x hx
      rw [oneZ_t] at hs
      have hl := text_len (-x / 4096).toNat (-x % 4096).toNat 4 (by omega) (by omega) (by omega)
      replace hs := Lib.hid hs
      obtain ⟨y, hy⟩ : ∃ y, -x = y := ⟨_, rfl⟩
      have y1 : 0 < y := by omega
      have y2 : y ≤ 9223372036854775807 := by omega
      have ha := i64_and4095 y
      rw [hy] at hs hl
      clear hm
      go_enter Tryd.func9, Tryd.ntmps9
      go_wp2_with fail
      refine (text_any (y / 4096) (y % 4096) 4 (by omega) (by omega) (by omega) (by omega) (by omega) _ ht).mono ?_
      rintro e w1 ⟨rfl, hB⟩
      go_wp2_with fail
      go_ret
      exact ⟨ret_str (by rw [hs.out, dash_text]; rfl), hB⟩
  · have hs := strZ_pos true x hx
    rw [oneZ_t] at hs
    replace hs := Lib.hid hs
    have ha := i64_and4095 x
    go_enter Tryd.func9, Tryd.ntmps9
    go_wp2_with fail
    refine (text_any (x / 4096) (x % 4096) 4 (by omega) (by omega) (by omega) (by omega) (by omega) _ ht).mono ?_
    rintro e w1 ⟨rfl, hB⟩
    go_wp2_with fail
    go_ret
    exact ⟨ret_str (by rw [hs.out]; rfl), hB⟩
theorem iString_any (b : Bool) (x : Int) (h : I64 x) (w : World) (ht : TabOk w) :
    Calls Tryd.prog 5 #[.bool b, .int .i64 x] w fun e w' => e = .returned (.string ⟨(strZ b (cutZ b x)).toArray⟩) ∧ Below w.heap.size w w' := by
  obtain ⟨h1, h2⟩ := h
  cases b
  · have hb := wrap32_bd x
    rw [cutZ_f]
    go_enter Tryd.func5, Tryd.ntmps5
    go_wp2_with fail
    refine (strS_any _ hb.1 hb.2 _ ht).mono ?_
    rintro e w1 ⟨rfl, hB⟩
    go_wp2_with fail
    go_ret
    exact ⟨rfl, hB⟩
  · rw [cutZ_t]
    go_enter Tryd.func5, Tryd.ntmps5
    go_wp2_with fail
    refine (strL_any _ h1 h2 _ ht).mono ?_
    rintro e w1 ⟨rfl, hB⟩
    go_wp2_with fail
    go_ret
    exact ⟨rfl, hB⟩
end Go.Proofs.YtiebbonpimmljaaDoor
