/- Plain lists: two numbers are written differently. No program in sight; the only condition: they are numbers of 64 bits. -/
import Derived.Test.YtiebbonpimmljaaDoorStr
namespace Go.Proofs.YtiebbonpimmljaaDoor
open Go.RowKit

def valL (l : List UInt8) (a : Nat) : Nat := l.foldl (fun a d => 10 * a + (d.toNat - 48)) a
theorem valL_snoc (l : List UInt8) (d : UInt8) (a : Nat) : valL (l ++ [d]) a = 10 * valL l a + (d.toNat - 48) := by
  unfold valL; rw [List.foldl_append]; rfl
theorem dig_nat (r : Nat) (h : r < 10) : (UInt8.ofNat (48 + r)).toNat = 48 + r := by
  rw [UInt8.toNat_ofNat']; omega
theorem valL_dec (u : Nat) : valL (Lib.decDigits u) 0 = u := by
  induction u using Nat.strongRecOn with
  | _ u ih =>
    by_cases h : u < 10
    · rw [Lib.decDigits_one h]
      show 10 * 0 + ((UInt8.ofNat (48 + u)).toNat - 48) = u
      rw [dig_nat u h]; omega
    · rw [dig_more u (by omega), valL_snoc, ih (u / 10) (by omega), dig_nat _ (by omega)]; omega
theorem valL_pad (j : Nat) (l : List UInt8) : valL (List.replicate j 48 ++ l) 0 = valL l 0 := by
  induction j with
  | zero => rfl
  | succ j ih =>
    rw [List.replicate_succ]
    exact ih
theorem dec_byte (u : Nat) : ∀ d ∈ Lib.decDigits u, 48 ≤ d.toNat ∧ d.toNat ≤ 57 := by
  induction u using Nat.strongRecOn with
  | _ u ih =>
    by_cases h : u < 10
    · rw [Lib.decDigits_one h]
      intro d hd
      simp only [List.mem_singleton] at hd
      rw [hd, dig_nat u h]; omega
    · rw [dig_more u (by omega)]
      intro d hd
      rw [List.mem_append] at hd
      rcases hd with hd | hd
      · exact ih (u / 10) (by omega) d hd
      · simp only [List.mem_singleton] at hd
        rw [hd, dig_nat _ (by omega)]; omega
theorem dec_ne (u : Nat) : Lib.decDigits u ≠ [] := by
  by_cases h : u < 10
  · rw [Lib.decDigits_one h]; simp
  · rw [dig_more u (by omega)]; simp
theorem split_one : ∀ (l1 l2 r1 r2 : List UInt8), (∀ d ∈ l1, d ≠ 58) → (∀ d ∈ l2, d ≠ 58) → l1 ++ 58 :: r1 = l2 ++ 58 :: r2 → l1 = l2 ∧ r1 = r2
  | [], [], _, _, _, _, h => ⟨rfl, by simpa using h⟩
  | [], b :: l2, r1, r2, _, h2, h => by
    simp at h
    exact absurd h.1.symm (h2 b (by simp))
  | a :: l1, [], r1, r2, h1, _, h => by
    simp at h
    exact absurd h.1 (h1 a (by simp))
  | a :: l1, b :: l2, r1, r2, h1, h2, h => by
    simp at h
    obtain ⟨e1, e2⟩ := split_one l1 l2 r1 r2 (fun d hd => h1 d (by simp [hd])) (fun d hd => h2 d (by simp [hd])) h.2
    exact ⟨by rw [h.1, e1], e2⟩
theorem no58 (u : Nat) : ∀ d ∈ Lib.decDigits u, d ≠ 58 := fun d hd e => by
  have := dec_byte u d hd
  rw [e] at this
  exact absurd this.2 (by decide)
theorem text_inj (a b a' b' k : Nat) (h : textL a b k = textL a' b' k) : a = a' ∧ b = b' := by
  unfold textL at h
  obtain ⟨h1, h2⟩ := split_one _ _ _ _ (no58 a) (no58 a') h
  have e1 := congrArg (fun l => valL l 0) h1
  have e2 := congrArg (fun l => valL l 0) h2
  simp only [valL_dec] at e1
  unfold padZ at e2
  simp only [valL_pad, valL_dec] at e2
  exact ⟨e1, e2⟩
theorem text_head (a b k : Nat) (r : List UInt8) : textL a b k ≠ 45 :: r := by
  intro h
  unfold textL at h
  cases hl : Lib.decDigits a with
  | nil => exact dec_ne a hl
  | cons d l =>
    rw [hl] at h
    simp at h
    have := dec_byte a d (by rw [hl]; simp)
    rw [h.1] at this
    exact absurd this.1 (by decide)
theorem str_inj (b : Bool) (c d : Int) (h : strZ b c = strZ b d) : c = d := by
  by_cases hc : c < 0 <;> by_cases hd : d < 0
  · rw [strZ_neg b c hc, strZ_neg b d hd] at h
    obtain ⟨h1, h2⟩ := text_inj _ _ _ _ _ (List.cons.inj h).2
    cases b
    · rw [oneZ_f] at h1 h2; omega
    · rw [oneZ_t] at h1 h2; omega
  · rw [strZ_neg b c hc, strZ_pos b d hd] at h
    exact absurd h.symm (text_head _ _ _ _)
  · rw [strZ_pos b c hc, strZ_neg b d hd] at h
    exact absurd h (text_head _ _ _ _)
  · rw [strZ_pos b c hc, strZ_pos b d hd] at h
    obtain ⟨h1, h2⟩ := text_inj _ _ _ _ _ h
    cases b
    · rw [oneZ_f] at h1 h2; omega
    · rw [oneZ_t] at h1 h2; omega
theorem str_ne (b : Bool) (c : Int) : strZ b c ≠ [] := by
  by_cases hc : c < 0
  · rw [strZ_neg b c hc]; simp
  · rw [strZ_pos b c hc]; unfold textL; simp
end Go.Proofs.YtiebbonpimmljaaDoor
