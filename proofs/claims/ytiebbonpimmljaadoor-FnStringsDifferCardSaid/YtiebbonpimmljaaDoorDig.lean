/- What the reference's digits comes to: the decimal numeral of any number of 64 bits without sign. Nothing in memory turns. -/
import Derived.Test.YtiebbonpimmljaaDoorNum
import Derived.Test.YtiebbonpimmljaaDoorShelf
import Derived.Lib.Hide
import Derived.Lib.ItoaNum
import Derived.Lib.AppendIntMem
import Derived.Lib.LaidTab
namespace Go.Proofs.YtiebbonpimmljaaDoor
open Go.RowKit
def strOf (l : List UInt8) : Value := .string ⟨l.toArray⟩
theorem len_le (u : Nat) (h : u < 100000000000000000000) : (Lib.decDigits u).length ≤ 20 := by
  rw [Lib.decDigits_length]
  by_cases h0 : Lib.nDigits u ≤ 20
  · exact h0
  · have hp := Lib.lt_pow_nDigits u
    have : 10 ^ 20 ≤ u := by
      have key : ∀ (n v : Nat), Lib.nDigits v = n + 1 → 1 ≤ n → 10 ^ n ≤ v := by
        intro n
        induction n with
        | zero => intro v _ h; omega
        | succ n ih =>
          intro v hv _
          by_cases hs : v < 10
          · rw [Lib.nDigits_small hs] at hv; omega
          · rw [Lib.nDigits_big hs] at hv
            by_cases hn : n = 0
            · subst hn; simp; omega
            · have := ih (v / 10) (by omega) (by omega)
              rw [Nat.pow_succ]; omega
      have h1 := key (Lib.nDigits u - 1) u (by omega) (by omega)
      exact Nat.le_trans (Nat.pow_le_pow_right (by decide) (by omega)) h1
    omega
theorem digits_step (n : Int) (h0 : 10 ≤ n) : (Lib.decDigits (n / 10).toNat) ++ (Lib.decDigits (n % 10).toNat) = Lib.decDigits n.toNat := by
  have e1 : (n / 10).toNat = n.toNat / 10 := by omega
  have e2 : (n % 10).toNat = n.toNat % 10 := by omega
  rw [e1, e2, Lib.decDigits_one (i := n.toNat % 10) (by omega)]
  conv => rhs; rw [Lib.decDigits, dif_neg (show ¬ n.toNat < 10 by omega)]
theorem str_join (a b : List UInt8) : (⟨a.toArray⟩ : ByteArray) ++ ⟨b.toArray⟩ = ⟨(a ++ b).toArray⟩ := by
  apply ByteArray.ext; simp
theorem ret_str {a b : ByteArray} (h : a = b) : Ending.returned (.string a) = .returned (.string b) := by rw [h]
theorem digit_0 (n : Nat) (h : n < 10) (x : ByteArray) (hx : x.data.toList = [UInt8.ofNat (48 + n)]) : x = ⟨(Lib.decDigits n).toArray⟩ := by
  rw [Lib.decDigits_one h, ← hx]
set_option maxHeartbeats 4000000 in
theorem digits_any (k : Nat) : ∀ (n : Int) (w : World), n ≤ k → 0 ≤ n → n < 18446744073709551616 →
    Calls Tryd.prog 12 #[.int .u64 n] w fun e w' => e = .returned (.string ⟨(Lib.decDigits n.toNat).toArray⟩) ∧ w = w' := by
  have small : ∀ (n : Int) (w : World), 0 ≤ n → n < 10 → Calls Tryd.prog 12 #[.int .u64 n] w fun e w' => e = .returned (.string ⟨(Lib.decDigits n.toNat).toArray⟩) ∧ w = w' := by
    intro n w h0 h1
    have hn : n = 0 ∨ n = 1 ∨ n = 2 ∨ n = 3 ∨ n = 4 ∨ n = 5 ∨ n = 6 ∨ n = 7 ∨ n = 8 ∨ n = 9 := by omega
    clear h0 h1
    rcases hn with rfl | rfl | rfl | rfl | rfl | rfl | rfl | rfl | rfl | rfl
    all_goals
      go_enter Tryd.func12, Tryd.ntmps12
      go_wp2_with fail
      go_ret
      exact ⟨ret_str (digit_0 _ (by decide) _ (by decide +kernel)), rfl⟩
  induction k with
  | zero =>
    intro n w hk h0 h1
    exact small n w h0 (by omega)
  | succ k ih =>
    intro n w hk h0 h1
    by_cases hn : n < 10
    · exact small n w h0 hn
    · have l1 := len_le (n / 10).toNat (by omega)
      have l2 := len_le (n % 10).toNat (by omega)
      have hs := Lib.hid (digits_step n (by omega))
      clear small
      replace ih := Lib.hid ih
      go_enter Tryd.func12, Tryd.ntmps12
      go_wp2_with (go_at_call 12; (with_reducible refine (ih.out _ _ (by omega) (by omega) (by omega)).mono ?_); rintro e w' ⟨rfl, rfl⟩)
      go_ret
      trace_state
      exact ⟨ret_str (by rw [str_join, hs.out]), rfl⟩
end Go.Proofs.YtiebbonpimmljaaDoor
