/- THE PLAIN LAWS of the decimal numeral: what the parser's loop holds after k digits. No Go in this text. -/
import Derived.Lib.ItoaNum
namespace Go.Proofs.Qxb6628384aDoor
open Go.Lib

/-- The number that the first k of L digits of u make. -/
def headNum (u L k : Nat) : Nat := u / 10 ^ (L - k)
/-- The digit at place k of L. -/
def digNum (u L k : Nat) : Nat := headNum u L (k + 1) % 10

theorem headNum_zero (u : Nat) : headNum u (nDigits u) 0 = 0 := by
  unfold headNum
  exact Nat.div_eq_of_lt (lt_pow_nDigits u)
theorem headNum_all (u L : Nat) : headNum u L L = u := by simp [headNum]
theorem headNum_le (u L k : Nat) : headNum u L k ≤ u := Nat.div_le_self _ _
theorem headNum_div (u L k : Nat) (h : k < L) : headNum u L k = headNum u L (k + 1) / 10 := by
  unfold headNum
  rw [Nat.div_div_eq_div_mul, ← Nat.pow_succ, show (L - (k + 1)).succ = L - k by omega]
theorem headNum_step (u L k : Nat) (h : k < L) : headNum u L (k + 1) = headNum u L k * 10 + digNum u L k := by
  rw [headNum_div u L k h, digNum]
  omega
theorem digNum_lt (u L k : Nat) : digNum u L k < 10 := Nat.mod_lt _ (by decide)
theorem dig_at (u k : Nat) (B : ByteArray) (hB : B.data.toList = decDigits u) (h : k < B.size) : (B[k].toNat : Int) = 48 + (digNum u (nDigits u) k : Int) := by
  have e : B[k] = dg u (nDigits u - 1 - k) := by
    show B.data[k] = _
    have : B.data.toList[k]? = some (dg u (nDigits u - 1 - k)) := by
      have hk : k < nDigits u := by
        have := congrArg List.length hB
        rw [decDigits_length] at this
        have h' : k < B.data.size := h
        simp at this
        omega
      rw [hB, decDigits_eq]
      simp [hk]
    rw [Array.getElem?_toList, Array.getElem?_eq_some_iff] at this
    exact this.2
  rw [e]
  unfold dg digNum headNum
  rw [show nDigits u - 1 - k = nDigits u - (k + 1) by omega]
  have := Nat.mod_lt (u / 10 ^ (nDigits u - (k + 1))) (show 0 < 10 by decide)
  simp only [UInt8.toNat_ofNat']
  omega
theorem size_dig (u : Nat) (B : ByteArray) (hB : B.data.toList = decDigits u) : B.size = nDigits u := by
  have := congrArg List.length hB
  rw [decDigits_length] at this
  simpa using this
theorem pow_le (u : Nat) (h : 1 ≤ u) : 10 ^ (nDigits u - 1) ≤ u := by
  induction u using Nat.strongRecOn with
  | _ u ih =>
    by_cases h' : u < 10
    · rw [nDigits_small h']; simpa using h
    · rw [nDigits_big h']
      have := ih (u / 10) (by omega) (by omega)
      have hp := nDigits_pos (u / 10)
      rw [show nDigits (u / 10) + 1 - 1 = nDigits (u / 10) - 1 + 1 by omega, Nat.pow_succ]
      omega
theorem first_pos (u : Nat) (h : 1 ≤ u) : 1 ≤ digNum u (nDigits u) 0 := by
  have h1 : headNum u (nDigits u) 1 = headNum u (nDigits u) 0 * 10 + digNum u (nDigits u) 0 := headNum_step u (nDigits u) 0 (nDigits_pos u)
  rw [headNum_zero] at h1
  have h2 : 1 ≤ headNum u (nDigits u) 1 := by
    unfold headNum
    have := pow_le u h
    exact (Nat.one_le_div_iff (Nat.pow_pos (by decide))).2 this
  omega
theorem no_twenty (u : Nat) (c : 19 < nDigits u) (h : u ≤ 9223372036854775808) : False := by
  have h0 : 1 ≤ u := by
    rcases Nat.eq_zero_or_pos u with e | e
    · subst e; rw [nDigits_small (by decide)] at c; omega
    · exact e
  have h1 := pow_le u h0
  have h2 : (10 : Nat) ^ 19 ≤ 10 ^ (nDigits u - 1) := Nat.pow_le_pow_right (by decide) (by omega)
  have h3 : (10 : Nat) ^ 19 = 10000000000000000000 := by decide
  omega
theorem nDigits_le (u : Nat) (h : u ≤ 9223372036854775808) : nDigits u ≤ 19 := by
  rcases Nat.lt_or_ge 19 (nDigits u) with c | c
  · exact (no_twenty u c h).elim
  · exact c
end Go.Proofs.Qxb6628384aDoor
