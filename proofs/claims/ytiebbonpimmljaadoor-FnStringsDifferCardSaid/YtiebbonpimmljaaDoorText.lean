/- What the package's text and both its String methods come to: the numeral, a colon, the parts with noughts ahead; they make memory and turn nothing that was there. Conditions: the library's table of powers of ten reads as it is laid; the numbers fit. -/
import Derived.Test.YtiebbonpimmljaaDoorDig
import Derived.Test.YtiebbonpimmljaaDoorRows
import Derived.Laws.BitsLemmas
import Derived.Lib.SmallJoins
namespace Go.Proofs.YtiebbonpimmljaaDoor
open Go.RowKit

/-- The name of the table, out of the row. -/
def tabName : String := ((Rows.fnStringRow.laid.map (·.1)).getD 2 default)
def TabOk (w : World) : Prop := Lib.TabIs Tryd.prog w tabName .u64 Lib.pow10Tab
theorem tabGlobal : Tryd.prog.globalNamed tabName = some 0 := by kernel_rfl
theorem TabOk.below {w w' : World} (h : TabOk w) (hb : Below w.heap.size w w') : TabOk w' :=
  Joins.tab_stays tabGlobal h hb (Nat.le_refl _)
theorem keepb {w W w1 : World} (h : Below w.heap.size w W) (hb : Below W.heap.size W w1) : Below w.heap.size w w1 := h.trans (hb.mono h.size)
theorem fmt_any (n : Int) (h0 : 0 ≤ n) (h1 : n ≤ 9223372036854775807) (w : World) (ht : TabOk w) :
    Calls Tryd.prog 14 #[.int .i64 n, .int .i64 10] w fun e w' => e = .returned (.string ⟨(Lib.decDigits n.toNat).toArray⟩) ∧ Below w.heap.size w w' := by
  refine (Any.strconv_FormatInt_10 Tryd.laysM173 n (by omega) h1 w ht).mono ?_
  rintro e w' ⟨rfl, k, os, rfl⟩
  refine ⟨?_, Lib.below_grow _ _ (Nat.le_refl _) _ _⟩
  unfold Lib.itoa
  rw [if_neg (by omega)]

def padZ (k : Nat) (l : List UInt8) : List UInt8 := List.replicate (k - l.length) 48 ++ l
def textL (a b k : Nat) : List UInt8 := Lib.decDigits a ++ (58 :: padZ k (Lib.decDigits b))
def strLen : Value → Nat
  | .string s => s.size
  | _ => 0
/-- A string that is the list, with j noughts ahead. -/
def Padded (D : List UInt8) (k : Nat) (S : ByteArray) : Prop := ∃ j, S.data.toList = List.replicate j 48 ++ D ∧ (j = 0 ∨ j + D.length ≤ k)
theorem Padded.start (l : List UInt8) (k : Nat) : Padded l k ⟨l.toArray⟩ := ⟨0, by simp, .inl rfl⟩
theorem Padded.size {D : List UInt8} {k : Nat} {S : ByteArray} (h : Padded D k S) : ∃ j, S.size = j + D.length ∧ (j = 0 ∨ j + D.length ≤ k) := by
  obtain ⟨j, h1, h2⟩ := h
  refine ⟨j, ?_, h2⟩
  have : S.size = S.data.toList.length := by rw [Array.length_toList]; rfl
  rw [this, h1]; simp
theorem Padded.more {D : List UInt8} {k : Nat} {S : ByteArray} (h : Padded D k S) (hs : S.size < k) : Padded D k ((⟨#[48]⟩ : ByteArray) ++ S) := by
  obtain ⟨j, h1, h2⟩ := h
  have e : S.size = j + D.length := by
    have : S.size = S.data.toList.length := by rw [Array.length_toList]; rfl
    rw [this, h1]; simp
  refine ⟨j + 1, ?_, .inr (by omega)⟩
  rw [List.replicate_succ]
  simp [h1]
theorem Padded.done {D : List UInt8} {k : Nat} {S : ByteArray} (h : Padded D k S) (hs : ¬ S.size < k) : S.data.toList = padZ k D := by
  obtain ⟨j, h1, h2⟩ := h
  have e : S.size = j + D.length := by
    have : S.size = S.data.toList.length := by rw [Array.length_toList]; rfl
    rw [this, h1]; simp
  unfold padZ
  rw [h1, show k - D.length = j by omega]
theorem bytes_eq {a : ByteArray} {l : List UInt8} (h : a.data.toList = l) : a = ⟨l.toArray⟩ := by
  apply ByteArray.ext; rw [← h]
theorem size_more (S : ByteArray) : ((⟨#[48]⟩ : ByteArray) ++ S).size = S.size + 1 := by
  rw [ByteArray.size_append, Nat.add_comm]; rfl

set_option maxHeartbeats 4000000 in
theorem text_any (a b : Int) (k : Nat) (ha : 0 ≤ a) (ha' : a ≤ 9223372036854775807) (hb : 0 ≤ b) (hb' : b ≤ 9223372036854775807) (hk : k ≤ 4) (w : World) (ht : TabOk w) :
    Calls Tryd.prog 13 #[.int .i64 a, .int .i64 b, .int .i64 k] w fun e w' => e = .returned (.string ⟨(textL a.toNat b.toNat k).toArray⟩) ∧ Below w.heap.size w w' := by
  have lA := len_le a.toNat (by omega)
  have lB := len_le b.toNat (by omega)
  go_enter Tryd.func13, Tryd.ntmps13
  go_wp2_with fail
  refine (fmt_any b hb hb' _ ht).mono ?_
  rintro e w1 ⟨rfl, hB⟩
  have ht1 := ht.below hB
  clear ht
  obtain ⟨D, hD⟩ : ∃ D, Lib.decDigits b.toNat = D := ⟨_, rfl⟩
  have hS := Padded.start D k
  rw [hD] at lB ⊢
  obtain ⟨S0, hS0⟩ : ∃ S : ByteArray, S = ⟨D.toArray⟩ := ⟨_, rfl⟩
  rw [← hS0] at hS ⊢
  replace hD := Lib.hid hD
  clear hS0
  go_wp2_with fail
  go_loop [7] (fun v => ∃ S : ByteArray, v = .string S ∧ Padded D k S) (fun v => k - strLen v)
  case atStart => exact ⟨S0, rfl, hS⟩
  case round =>
    obtain ⟨S, rfl, hP⟩ := hrel
    obtain ⟨j, s1, s2⟩ := hP.size
    have s3 : S.size ≤ 24 := by omega
    by_cases hc : S.size < k
    · have hN := hP.more hc
      clear s1 s2
      go_wp2_with fail
      go_round
      case rel => exact ⟨_, rfl, hN⟩
      case measure => (have hz := size_more S; simp only [strLen]; omega)
    · have hE := Lib.hid (hP.done hc)
      clear s1 s2
      go_wp2_with fail
      refine (fmt_any a ha ha' _ ht1).mono ?_
      rintro e w2 ⟨rfl, hB2⟩
      go_wp2_with fail
      go_ret
      refine ⟨ret_str (bytes_eq ?_), keepb hB hB2⟩
      unfold textL
      rw [hD.out]
      simp [hE.out]
end Go.Proofs.YtiebbonpimmljaaDoor
