/- What the reference's Size and String come to: for every int64; they turn nothing that was there. -/
import Derived.Test.YtiebbonpimmljaaDoorStr
namespace Go.Proofs.YtiebbonpimmljaaDoor
open Go.RowKit

theorem u64w (n : Int) : IntKind.u64.wrap n = n % 18446744073709551616 := IntKind.wrap_u64 n
theorem absS_bd (x : Int) (h : I64 x) : 0 ≤ absS x ∧ absS x ≤ 9223372036854775808 := by
  obtain ⟨_, _⟩ := h; unfold absS; split <;> omega
theorem size_any (x : Int) (h : I64 x) (w : World) : Calls Tryd.prog 11 #[.int .i64 x] w fun e w' => e = .returned (.int .u64 (absS x)) ∧ w = w' := by
  by_cases hx : x < 0
  · have k : Hid (IntKind.u64.wrap (-IntKind.u64.wrap x) = absS x) := by
      obtain ⟨_, _⟩ := h; rw [absS_neg hx]; show _ = _; rw [u64w, u64w]; omega
    go_enter Tryd.func11, Tryd.ntmps11
    go_wp2
    go_ret
    exact ⟨ret_int k.out, rfl⟩
  · have k : Hid (IntKind.u64.wrap x = absS x) := by
      obtain ⟨_, _⟩ := h; rw [absS_pos hx]; show _ = _; rw [u64w]; omega
    go_enter Tryd.func11, Tryd.ntmps11
    go_wp2
    go_ret
    exact ⟨ret_int k.out, rfl⟩
set_option maxHeartbeats 4000000 in
theorem spec_fp (x : Int) (h : I64 x) (hx : ¬ x < 0) (w : World) :
    Calls Tryd.prog 6 #[.int .i64 x, .int .i64 64] w fun e w' => e = .returned (.string ⟨(strZ false x).toArray⟩) ∧ w = w' := by
  obtain ⟨a1, a2⟩ := absS_bd x h
  have hn : absS x = x := absS_pos hx
  have hs : strZ false x = textL (absS x / 64).toNat (absS x % 64).toNat (widN false) := by
    have hs := strZ_pos false x hx
    rw [oneZ_f] at hs
    rw [hn]
    exact hs
  obtain ⟨n, en⟩ : ∃ n, absS x = n := ⟨_, rfl⟩
  rw [en] at hs a1 a2
  clear hn
  replace hs := Lib.hid hs
  have lA := len_le (n / 64).toNat (by omega)
  have lB := len_le (n % 64).toNat (by omega)
  go_enter Tryd.func6, Tryd.ntmps6
  go_wp2_with (go_at_call 11; (with_reducible refine (size_any _ h _).mono ?_); rintro e w' ⟨rfl, rfl⟩)
  refine (digits_any (n % 64).toNat (n % 64) _ (by omega) (by omega) (by omega)).mono ?_
  rintro e w1 ⟨rfl, rfl⟩
  obtain ⟨D, hD⟩ : ∃ D, Lib.decDigits (n % 64).toNat = D := ⟨_, rfl⟩
  have hS := Padded.start D 2
  rw [hD] at lB ⊢
  obtain ⟨S0, hS0⟩ : ∃ S : ByteArray, S = ⟨D.toArray⟩ := ⟨_, rfl⟩
  rw [← hS0] at hS ⊢
  replace hD := Lib.hid hD
  clear hS0 en
  go_wp2_with fail
  go_loop [7] (fun v => ∃ S : ByteArray, v = .string S ∧ Padded D 2 S) (fun v => 2 - strLen v)
  case atStart => exact ⟨S0, rfl, hS⟩
  case round =>
    obtain ⟨S, rfl, hP⟩ := hrel
    obtain ⟨j, s1, s2⟩ := hP.size
    have s3 : S.size ≤ 24 := by omega
    by_cases hc : S.size < 2
    · have hN := hP.more hc
      clear s1 s2
      go_wp2_with fail
      go_round
      case rel => exact ⟨_, rfl, hN⟩
      case measure => (have hz := size_more S; simp only [strLen]; omega)
    · have hE := Lib.hid (hP.done hc)
      clear s1 s2
      go_wp2_with fail
      refine (digits_any (n / 64).toNat (n / 64) _ (by omega) (by omega) (by omega)).mono ?_
      rintro e w2 ⟨rfl, rfl⟩
      go_wp2_with fail
      go_ret
      refine ⟨ret_str (bytes_eq ?_), rfl⟩
      rw [hs.out]
      unfold textL
      rw [hD.out]
      simp [hE.out, widN]
set_option maxHeartbeats 4000000 in
theorem spec_fn (x : Int) (h : I64 x) (hx : x < 0) (w : World) :
    Calls Tryd.prog 6 #[.int .i64 x, .int .i64 64] w fun e w' => e = .returned (.string ⟨(strZ false x).toArray⟩) ∧ w = w' := by
  obtain ⟨a1, a2⟩ := absS_bd x h
  have hn : absS x = -x := absS_neg hx
  have hs : strZ false x = 45 :: textL (absS x / 64).toNat (absS x % 64).toNat (widN false) := by
    have hs := strZ_neg false x hx
    rw [oneZ_f] at hs
    rw [hn]
    exact hs
  obtain ⟨n, en⟩ : ∃ n, absS x = n := ⟨_, rfl⟩
  rw [en] at hs a1 a2
  clear hn
  replace hs := Lib.hid hs
  have lA := len_le (n / 64).toNat (by omega)
  have lB := len_le (n % 64).toNat (by omega)
  go_enter Tryd.func6, Tryd.ntmps6
  go_wp2_with (go_at_call 11; (with_reducible refine (size_any _ h _).mono ?_); rintro e w' ⟨rfl, rfl⟩)
  refine (digits_any (n % 64).toNat (n % 64) _ (by omega) (by omega) (by omega)).mono ?_
  rintro e w1 ⟨rfl, rfl⟩
  obtain ⟨D, hD⟩ : ∃ D, Lib.decDigits (n % 64).toNat = D := ⟨_, rfl⟩
  have hS := Padded.start D 2
  rw [hD] at lB ⊢
  obtain ⟨S0, hS0⟩ : ∃ S : ByteArray, S = ⟨D.toArray⟩ := ⟨_, rfl⟩
  rw [← hS0] at hS ⊢
  replace hD := Lib.hid hD
  clear hS0 en
  go_wp2_with fail
  go_loop [7] (fun v => ∃ S : ByteArray, v = .string S ∧ Padded D 2 S) (fun v => 2 - strLen v)
  case atStart => exact ⟨S0, rfl, hS⟩
  case round =>
    obtain ⟨S, rfl, hP⟩ := hrel
    obtain ⟨j, s1, s2⟩ := hP.size
    have s3 : S.size ≤ 24 := by omega
    by_cases hc : S.size < 2
    · have hN := hP.more hc
      clear s1 s2
      go_wp2_with fail
      go_round
      case rel => exact ⟨_, rfl, hN⟩
      case measure => (have hz := size_more S; simp only [strLen]; omega)
    · have hE := Lib.hid (hP.done hc)
      clear s1 s2
      go_wp2_with fail
      refine (digits_any (n / 64).toNat (n / 64) _ (by omega) (by omega) (by omega)).mono ?_
      rintro e w2 ⟨rfl, rfl⟩
      go_wp2_with fail
      go_ret
      refine ⟨ret_str (bytes_eq ?_), rfl⟩
      rw [hs.out]
      unfold textL
      rw [hD.out]
      simp [hE.out, widN]
set_option maxHeartbeats 4000000 in
theorem spec_tp (x : Int) (h : I64 x) (hx : ¬ x < 0) (w : World) :
    Calls Tryd.prog 6 #[.int .i64 x, .int .i64 4096] w fun e w' => e = .returned (.string ⟨(strZ true x).toArray⟩) ∧ w = w' := by
  obtain ⟨a1, a2⟩ := absS_bd x h
  have hn : absS x = x := absS_pos hx
  have hs : strZ true x = textL (absS x / 4096).toNat (absS x % 4096).toNat (widN true) := by
    have hs := strZ_pos true x hx
    rw [oneZ_t] at hs
    rw [hn]
    exact hs
  obtain ⟨n, en⟩ : ∃ n, absS x = n := ⟨_, rfl⟩
  rw [en] at hs a1 a2
  clear hn
  replace hs := Lib.hid hs
  have lA := len_le (n / 4096).toNat (by omega)
  have lB := len_le (n % 4096).toNat (by omega)
  go_enter Tryd.func6, Tryd.ntmps6
  go_wp2_with (go_at_call 11; (with_reducible refine (size_any _ h _).mono ?_); rintro e w' ⟨rfl, rfl⟩)
  refine (digits_any (n % 4096).toNat (n % 4096) _ (by omega) (by omega) (by omega)).mono ?_
  rintro e w1 ⟨rfl, rfl⟩
  obtain ⟨D, hD⟩ : ∃ D, Lib.decDigits (n % 4096).toNat = D := ⟨_, rfl⟩
  have hS := Padded.start D 4
  rw [hD] at lB ⊢
  obtain ⟨S0, hS0⟩ : ∃ S : ByteArray, S = ⟨D.toArray⟩ := ⟨_, rfl⟩
  rw [← hS0] at hS ⊢
  replace hD := Lib.hid hD
  clear hS0 en
  go_wp2_with fail
  go_loop [7] (fun v => ∃ S : ByteArray, v = .string S ∧ Padded D 4 S) (fun v => 4 - strLen v)
  case atStart => exact ⟨S0, rfl, hS⟩
  case round =>
    obtain ⟨S, rfl, hP⟩ := hrel
    obtain ⟨j, s1, s2⟩ := hP.size
    have s3 : S.size ≤ 24 := by omega
    by_cases hc : S.size < 4
    · have hN := hP.more hc
      clear s1 s2
      go_wp2_with fail
      go_round
      case rel => exact ⟨_, rfl, hN⟩
      case measure => (have hz := size_more S; simp only [strLen]; omega)
    · have hE := Lib.hid (hP.done hc)
      clear s1 s2
      go_wp2_with fail
      refine (digits_any (n / 4096).toNat (n / 4096) _ (by omega) (by omega) (by omega)).mono ?_
      rintro e w2 ⟨rfl, rfl⟩
      go_wp2_with fail
      go_ret
      refine ⟨ret_str (bytes_eq ?_), rfl⟩
      rw [hs.out]
      unfold textL
      rw [hD.out]
      simp [hE.out, widN]
set_option maxHeartbeats 4000000 in
theorem spec_tn (x : Int) (h : I64 x) (hx : x < 0) (w : World) :
    Calls Tryd.prog 6 #[.int .i64 x, .int .i64 4096] w fun e w' => e = .returned (.string ⟨(strZ true x).toArray⟩) ∧ w = w' := by
  obtain ⟨a1, a2⟩ := absS_bd x h
  have hn : absS x = -x := absS_neg hx
  have hs : strZ true x = 45 :: textL (absS x / 4096).toNat (absS x % 4096).toNat (widN true) := by
    have hs := strZ_neg true x hx
    rw [oneZ_t] at hs
    rw [hn]
    exact hs
  obtain ⟨n, en⟩ : ∃ n, absS x = n := ⟨_, rfl⟩
  rw [en] at hs a1 a2
  clear hn
  replace hs := Lib.hid hs
  have lA := len_le (n / 4096).toNat (by omega)
  have lB := len_le (n % 4096).toNat (by omega)
  go_enter Tryd.func6, Tryd.ntmps6
  go_wp2_with (go_at_call 11; (with_reducible refine (size_any _ h _).mono ?_); rintro e w' ⟨rfl, rfl⟩)
  refine (digits_any (n % 4096).toNat (n % 4096) _ (by omega) (by omega) (by omega)).mono ?_
  rintro e w1 ⟨rfl, rfl⟩
  obtain ⟨D, hD⟩ : ∃ D, Lib.decDigits (n % 4096).toNat = D := ⟨_, rfl⟩
  have hS := Padded.start D 4
  rw [hD] at lB ⊢
  obtain ⟨S0, hS0⟩ : ∃ S : ByteArray, S = ⟨D.toArray⟩ := ⟨_, rfl⟩
  rw [← hS0] at hS ⊢
  replace hD := Lib.hid hD
  clear hS0 en
  go_wp2_with fail
  go_loop [7] (fun v => ∃ S : ByteArray, v = .string S ∧ Padded D 4 S) (fun v => 4 - strLen v)
  case atStart => exact ⟨S0, rfl, hS⟩
  case round =>
    obtain ⟨S, rfl, hP⟩ := hrel
    obtain ⟨j, s1, s2⟩ := hP.size
    have s3 : S.size ≤ 24 := by omega
    by_cases hc : S.size < 4
    · have hN := hP.more hc
      clear s1 s2
      go_wp2_with fail
      go_round
      case rel => exact ⟨_, rfl, hN⟩
      case measure => (have hz := size_more S; simp only [strLen]; omega)
    · have hE := Lib.hid (hP.done hc)
      clear s1 s2
      go_wp2_with fail
      refine (digits_any (n / 4096).toNat (n / 4096) _ (by omega) (by omega) (by omega)).mono ?_
      rintro e w2 ⟨rfl, rfl⟩
      go_wp2_with fail
      go_ret
      refine ⟨ret_str (bytes_eq ?_), rfl⟩
      rw [hs.out]
      unfold textL
      rw [hD.out]
      simp [hE.out, widN]
theorem sString_any (b : Bool) (x : Int) (h : I64 x) (w : World) :
    Calls Tryd.prog 6 #[.int .i64 x, .int .i64 (oneZ b)] w fun e w' => e = .returned (.string ⟨(strZ b x).toArray⟩) ∧ w = w' := by
  cases b <;> by_cases hx : x < 0
  · exact spec_fn x h hx w
  · exact spec_fp x h hx w
  · exact spec_tn x h hx w
  · exact spec_tp x h hx w
end Go.Proofs.YtiebbonpimmljaaDoor
