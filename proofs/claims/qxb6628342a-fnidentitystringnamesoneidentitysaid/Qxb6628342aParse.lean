import Derived.Test.Qxb6628342aGrowsWalk
import Derived.Lib.Strings
namespace Go.Proofs.Qxb6628342a
open Go.RowKit

theorem zzBytes_names (a0 : Bool) (a1 a2 a3 : ByteArray) (a4 : Bool) (a5 a6 a7 : ByteArray) (w1 : a1.size ≤ maxLen) (w2 : a2.size ≤ maxLen) (w3 : a3.size ≤ maxLen) (w5 : a5.size ≤ maxLen) (w6 : a6.size ≤ maxLen) (w7 : a7.size ≤ maxLen) (w : World) :
    Calls Try.prog 5 #[.bool a0, .string a1, .string a2, .string a3, .bool a4, .string a5, .string a6, .string a7] w fun e w' => ∃ b : Bool, e = .returned (.bool b) ∧ w = w' := by
  unfold maxLen at w1 w2 w3 w5 w6 w7
  go_enter Try.func5, Try.ntmps5
  go_wp2
  all_goals (go_ret; exact ⟨_, rfl, rfl⟩)

def slashB (s : ByteArray) : Bool := s.data.toList.any (· == 47)
def NoSl (s : ByteArray) (k : Nat) : Prop := ∀ j (h : j < s.size), j < k → s[j] ≠ 47

theorem slashB_no {s : ByteArray} (h : NoSl s s.size) : slashB s = false := by
  unfold slashB
  rw [List.any_eq_false]
  intro x hx
  obtain ⟨j, hj, rfl⟩ := List.getElem_of_mem hx
  have hj' : j < s.size := by simpa using hj
  have := h j hj' hj'
  simp only [beq_iff_eq]
  exact this
theorem slashB_yes {s : ByteArray} {k : Nat} (hk : k < s.size) (h : ((s[k].toNat : Int) == 47) = true) : slashB s = true := by
  unfold slashB
  rw [List.any_eq_true]
  refine ⟨s[k], ?_, ?_⟩
  · show s.data[k] ∈ s.data.toList
    simp
  · have h' : (s[k].toNat : Int) = 47 := by simpa using h
    have : s[k].toNat = 47 := by omega
    simp only [beq_iff_eq]
    exact UInt8.toNat_inj.1 this
theorem NoSl_of {s : ByteArray} (h : slashB s = false) (k : Nat) : NoSl s k := by
  intro j hj _ e
  unfold slashB at h
  rw [List.any_eq_false] at h
  exact h s[j] (by show s.data[j] ∈ s.data.toList; simp) (by simp [e])
theorem NoSl_succ {s : ByteArray} {k : Nat} (hk : k < s.size) (h : NoSl s k) (e : ((s[k].toNat : Int) == 47) = false) : NoSl s (k + 1) := by
  intro j hj hjk
  by_cases e' : j = k
  · subst e'
    intro c
    rw [c] at e
    simp at e
  · exact h j hj (by omega)

theorem hasSlash_any (s : ByteArray) (hs : s.size ≤ 1048576) (w : World) :
    Calls Try.prog 6 #[.string s] w fun e w' => e = .returned (.bool (slashB s)) ∧ w = w' := by
  go_enter Try.func6, Try.ntmps6
  go_wp2
  go_loop [3] (fun i => ∃ k : Nat, k ≤ s.size ∧ i = .int .i64 k ∧ NoSl s k) (fun i => s.size - (intOf i).toNat)
  case atStart => exact ⟨0, Nat.zero_le _, rfl, fun j _ h => by omega⟩
  case round =>
    obtain ⟨k, hk, rfl, hall⟩ := hrel
    by_cases hlt : k < s.size
    · go_wp2
      · go_ret
        exact ⟨ret_bool (slashB_yes hlt ‹_›).symm, rfl⟩
      · go_round
        case rel => exact ⟨k + 1, by omega, by go_num, NoSl_succ hlt hall ‹_›⟩
        case measure => simp [intOf]; omega
    · have e : k = s.size := by omega
      go_wp2
      go_ret
      exact ⟨ret_bool (slashB_no (e ▸ hall)).symm, rfl⟩

theorem extract_app (p r : ByteArray) : (p ++ r).extract p.size (p ++ r).size = r := by
  apply ByteArray.ext
  apply Array.ext'
  simp
  rw [List.drop_of_length_le (by simp), List.take_of_length_le (l := r.data.toList) (by simp)]
  simp

theorem ret_two {a b : ByteArray} {v : Value} (h : a = b) : Ending.returned (.tuple #[.string a, v]) = .returned (.tuple #[.string b, v]) := by rw [h]
theorem after_yes (p r : ByteArray) (hp : p.size ≤ 1048576) (hr : r.size ≤ 10485760) (w : World) :
    Calls Try.prog 11 #[.string (p ++ r), .string p] w fun e w' => e = .returned (.tuple #[.string r, .bool true]) ∧ ∃ n, w' = w.drewN n := by
  have hx := extract_app p r
  have hz : (p ++ r).size = p.size + r.size := ByteArray.size_append
  have hk : ∀ k, k < p.size → ∀ (h : k < (p ++ r).size), ∀ (h' : k < p.size), (p ++ r)[k] = p[k] := by
    intro k _ h h'
    exact ByteArray.getElem_append_left h'
  generalize p ++ r = s at *
  have HX : Hid (s.extract p.size s.size = r) := hx
  have HK : Hid (∀ k, k < p.size → ∀ (h : k < s.size), ∀ (h' : k < p.size), s[k] = p[k]) := hk
  have h1 : p.size ≤ s.size := by omega
  have h2 : s.size ≤ 11534336 := by omega
  clear hx hk hz
  go_enter Try.func11, Try.ntmps11
  go_wp2
  go_loopw [6] (fun i w' => ∃ k : Nat, k ≤ p.size ∧ i = .int .i64 k ∧ ∃ n, w' = w.drewN n) (fun i _ => p.size - (intOf i).toNat)
  case atStart => exact ⟨0, Nat.zero_le _, rfl, 0, rfl⟩
  case round =>
    obtain ⟨k, hk, rfl, n, rfl⟩ := hrel
    by_cases hlt : k < p.size
    · have e := HK.out k hlt (by omega) hlt
      have hlt' : k < s.size := by omega
      go_wp2
      go_quiet (fail)
      go_wp2
      go_roundw
      case rel => exact ⟨k + 1, by omega, by go_num, _, rfl⟩
      case measure => simp [intOf]; omega
    · go_wp2
      go_ret2
      exact ⟨ret_two HX.out, n, rfl⟩

theorem after_no (s p : ByteArray) (i : Nat) (h1 : p.size ≤ s.size) (hi : i < p.size) (hne : ¬ s[i] = p[i]) (hs : s.size ≤ 10485760) (w : World) :
    Calls Try.prog 11 #[.string s, .string p] w fun e w' => e = .returned (.tuple #[.string ⟨#[]⟩, .bool false]) ∧ ∃ n, w' = w.drewN n := by
  have HN : Hid (¬ s[i] = p[i]) := hne
  clear hne
  go_enter Try.func11, Try.ntmps11
  go_wp2
  go_loopw [6] (fun j w' => ∃ k : Nat, k ≤ i ∧ j = .int .i64 k ∧ ∃ n, w' = w.drewN n) (fun j _ => p.size - (intOf j).toNat)
  case atStart => exact ⟨0, Nat.zero_le _, rfl, 0, rfl⟩
  case round =>
    obtain ⟨k, hk, rfl, n, rfl⟩ := hrel
    have hlt : k < p.size := by omega
    have hlt' : k < s.size := by omega
    by_cases e : s[k] = p[k]
    · have hki : k < i := by
        rcases Nat.lt_or_ge k i with h | h
        · exact h
        · obtain rfl : k = i := by omega
          exact absurd e HN.out
      go_wp2
      go_quiet (fail)
      go_wp2
      go_roundw
      case rel => exact ⟨k + 1, by omega, by go_num, _, rfl⟩
      case measure => simp [intOf]; omega
    · have e' : ((s[k].toNat : Int) != (p[k].toNat : Int)) = true := by
        rw [bne_iff_ne]
        intro c
        exact e (UInt8.toNat_inj.1 (by omega))
      go_wp2
      go_quiet (fail)
      go_wp2
      go_ret2
      exact ⟨rfl, _, World.drewN_drewN _ _ _⟩
end Go.Proofs.Qxb6628342a
