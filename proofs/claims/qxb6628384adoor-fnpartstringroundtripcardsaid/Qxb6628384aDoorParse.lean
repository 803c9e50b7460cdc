import Derived.Test.Qxb6628384aDoorPlain
import Derived.Test.Qxb6628384aDoorRows
import Derived.WalkKit
import Derived.WalkSpells
import Derived.WalkLawsBesides
import Derived.RowKit3
import Derived.BigQuiet
import Derived.Lib.Strings
namespace Go.Proofs.Qxb6628384aDoor
open Go.RowKit

theorem int_eq {a b : Int} (h : a = b) : Value.int .i64 a = Value.int .i64 b := by rw [h]
theorem ret_bool {a b : Bool} (h : a = b) : Ending.returned (.bool a) = .returned (.bool b) := by rw [h]
theorem prefix_yes (s p : ByteArray) (h1 : p.size ≤ s.size) (hs : s.size ≤ 1048576) (hk : ∀ k (h : k < s.size) (h' : k < p.size), s[k] = p[k]) (w : World) :
    Calls Tryd.prog 7 #[.string s, .string p] w fun e w' => e = .returned (.bool true) ∧ ∃ n, w' = w.drewN n := by
  have HK : Hid (∀ k (h : k < s.size) (h' : k < p.size), s[k] = p[k]) := hk
  clear hk
  go_enter Tryd.func7, Tryd.ntmps7
  go_wp2
  go_loopw [5] (fun i w' => ∃ k : Nat, k ≤ p.size ∧ i = .int .i64 k ∧ ∃ n, w' = w.drewN n) (fun i _ => p.size - (intOf i).toNat)
  case atStart => exact ⟨0, Nat.zero_le _, rfl, 0, rfl⟩
  case round =>
    obtain ⟨k, hk, rfl, n, rfl⟩ := hrel
    by_cases hlt : k < p.size
    · have e := HK.out k (by omega) hlt
      have hlt' : k < s.size := by omega
      go_wp2
      go_quiet (fail)
      go_wp2
      go_roundw
      case rel => exact ⟨k + 1, by omega, by go_num, _, rfl⟩
      case measure => simp [intOf]; omega
    · go_wp2
      go_ret
      exact ⟨rfl, n, rfl⟩

/-- The text of a part outside 0..3. -/
def partText (B : ByteArray) : ByteArray := ⟨#[80, 97, 114, 116, 40]⟩ ++ B ++ ⟨#[41]⟩
theorem partText_size (B : ByteArray) : (partText B).size = B.size + 6 := by
  unfold partText
  simp only [ByteArray.size_append]
  rw [show (ByteArray.mk #[80, 97, 114, 116, 40]).size = 5 from rfl, show (ByteArray.mk #[41]).size = 1 from rfl]
  omega
theorem partText_list (B : ByteArray) : (partText B).data.toList = [80, 97, 114, 116, 40] ++ B.data.toList ++ [41] := by
  simp [partText]
theorem partText_ne (B : ByteArray) (c : UInt8) (l : List UInt8) (h : c ≠ 80) : ((partText B).toList == c :: l) = false := by
  rw [ByteArray.toList_eq, partText_list]
  rw [beq_eq_false_iff_ne]
  intro e
  simp at e
  exact h e.1.symm
theorem partText_body (B : ByteArray) : (partText B).extract 5 (B.size + 5) = B := by
  apply ByteArray.ext
  apply Array.ext'
  rw [Lib.extract_data, partText_list]
  simp
theorem partText_last (B : ByteArray) (h : B.size + 5 < (partText B).size) : (partText B)[B.size + 5] = 41 := by
  show (partText B).data[B.size + 5] = 41
  have : (partText B).data.toList[B.size + 5]? = some 41 := by
    rw [partText_list]
    simp
  rw [Array.getElem?_toList, Array.getElem?_eq_some_iff] at this
  exact this.2
theorem partText_head (B : ByteArray) (k : Nat) (h : k < (partText B).size) (h' : k < (ByteArray.mk #[80, 97, 114, 116, 40]).size) : (partText B)[k] = (ByteArray.mk #[80, 97, 114, 116, 40])[k] := by
  revert h
  unfold partText
  intro h
  rw [ByteArray.getElem_append_left (by rw [ByteArray.size_append]; omega), ByteArray.getElem_append_left h']

set_option maxHeartbeats 400000 in
open Go.Lib in
theorem parse_pos (B : ByteArray) (u : Nat) (hu : 4 ≤ u) (hu' : u ≤ 9223372036854775807) (hB : B.data.toList = decDigits u) (w : World) :
    Calls Tryd.prog 5 #[.string (partText B)] w fun e w' => e = .returned (.tuple #[.int .i64 u, .bool true]) ∧ ∃ n, w' = w.drewN n := by
  have z1 := partText_size B
  have z2 := size_dig u B hB
  have z3 := nDigits_le u (by omega)
  have z4 := nDigits_pos u
  have n1 := partText_ne B 99 [111, 109, 109, 101, 110, 116] (by decide)
  have n2 := partText_ne B 111 [112, 116, 105, 111, 110, 115] (by decide)
  have n3 := partText_ne B 104 [101, 97, 100, 101, 114] (by decide)
  have n4 := partText_ne B 99 [101, 114, 116, 105, 102, 105, 99, 97, 116, 101] (by decide)
  have hb := partText_body B
  have hl := partText_last B
  have hh := partText_head B
  have hd : ∀ k (h : k < B.size), (B[k].toNat : Int) = 48 + (digNum u (nDigits u) k : Int) := fun k h => dig_at u k B hB h
  have hf := first_pos u (by omega)
  generalize hs : partText B = s at *
  clear hs
  have HH : Hid (∀ k (h : k < s.size) (h' : k < (ByteArray.mk #[80, 97, 114, 116, 40]).size), s[k] = (ByteArray.mk #[80, 97, 114, 116, 40])[k]) := hh
  have HD : Hid (∀ k (h : k < B.size), (B[k].toNat : Int) = 48 + (digNum u (nDigits u) k : Int)) := hd
  have HB : s.extract 5 (s.size - 1) = B := by rw [z1]; exact hb
  have HL : ∀ (h : s.size - 1 < s.size), s[s.size - 1] = 41 := by
    have e : s.size - 1 = B.size + 5 := by omega
    rw [e]
    exact hl
  have z5 : s.size ≤ 25 := by omega
  have z6 : 7 ≤ s.size := by omega
  have b0 : 0 < B.size := by omega
  have b1 : ((B.size : Int) == 0) = false := by rw [beq_eq_false_iff_ne]; omega
  have b2 : ((B[0].toNat : Int) == 45) = false := by rw [beq_eq_false_iff_ne, hd 0 b0]; omega
  have b3 : ((B[0].toNat : Int) == 48) = false := by rw [beq_eq_false_iff_ne, hd 0 b0]; omega
  have b4 : B.size ≤ 19 := by omega
  have HZ2 : Hid (B.size = nDigits u) := z2
  have HU : Hid (4 ≤ u ∧ u ≤ 9223372036854775807) := ⟨hu, hu'⟩
  clear hl hd hb z1 z2 hB hh hu hu' z3 z4 hf
  go_enter Tryd.func5, Tryd.ntmps5
  go_wp2_with fail
  refine (prefix_yes s ⟨#[80, 97, 114, 116, 40]⟩ (show 5 ≤ _ by omega) (by omega) HH.out _).mono ?_
  rintro e w' ⟨rfl, n0, rfl⟩
  go_wp2_with fail
  clear b2 b3 n1 n2 n3 n4 HB HL HH
  go_loop [6, 7] (fun v i => ∃ k : Nat, k ≤ B.size ∧ i = .int .i64 k ∧ v = .int .i64 (-(headNum u (nDigits u) k : Int))) (fun _ i => B.size - (intOf i).toNat)
  case atStart => exact ⟨0, Nat.zero_le _, rfl, by rw [headNum_zero]; rfl⟩
  case round =>
    obtain ⟨k, hk, rfl, rfl⟩ := hrel
    by_cases hlt : k < B.size
    · have hc := HD.out k hlt
      have hq := headNum_step u (nDigits u) k (by rw [← HZ2.out]; exact hlt)
      have hq' := headNum_le u (nDigits u) (k + 1)
      have hdl := digNum_lt u (nDigits u) k
      have hu1 := HU.out.1
      have hu2 := HU.out.2
      have c1 : 48 ≤ (B[k].toNat : Int) := by omega
      have c2 : (B[k].toNat : Int) ≤ 57 := by omega
      have HC : Hid ((B[k].toNat : Int) = 48 + (digNum u (nDigits u) k : Int)) := hc
      have HQ : Hid (headNum u (nDigits u) (k + 1) = headNum u (nDigits u) k * 10 + digNum u (nDigits u) k) := hq
      have c3 : headNum u (nDigits u) k ≤ 922337203685477580 := by omega
      have c4 : (headNum u (nDigits u) k : Int) * 10 + ((B[k].toNat : Int) - 48) ≤ 9223372036854775807 := by omega
      clear hc hq hq' hdl hu1 hu2
      go_wp2
      go_round
      case rel => exact ⟨k + 1, by omega, by go_num, int_eq (by rw [HQ.out]; have := HC.out; omega)⟩
      case measure => simp [intOf]; omega
    · have ek : k = nDigits u := by rw [← HZ2.out]; omega
      have eq : headNum u (nDigits u) k = u := by rw [ek, headNum_all]
      have hu1 := HU.out.1
      have hu2 := HU.out.2
      rw [eq]
      clear eq ek
      go_wp2
      go_ret2
      exact ⟨rfl, n0, rfl⟩

theorem extract_app (p r : ByteArray) : (p ++ r).extract p.size (p ++ r).size = r := by
  apply ByteArray.ext
  apply Array.ext'
  simp
  rw [List.drop_of_length_le (by simp), List.take_of_length_le (l := r.data.toList) (by simp)]
  simp
set_option maxHeartbeats 400000 in
open Go.Lib in
theorem parse_neg (B D : ByteArray) (u : Nat) (hu : 1 ≤ u) (hu' : u ≤ 9223372036854775808) (hD : D.data.toList = decDigits u) (hBD : B = ⟨#[45]⟩ ++ D) (w : World) :
    Calls Tryd.prog 5 #[.string (partText B)] w fun e w' => e = .returned (.tuple #[.int .i64 (-(u : Int)), .bool true]) ∧ ∃ n, w' = w.drewN n := by
  have z1 := partText_size B
  have z2 := size_dig u D hD
  have z7 : B.size = D.size + 1 := by rw [hBD, ByteArray.size_append, show (ByteArray.mk #[45]).size = 1 from rfl]; omega
  have x1 : B.extract 1 B.size = D := by rw [hBD]; exact extract_app _ _
  have x0 : ∀ (h : 0 < B.size), B[0] = 45 := by subst hBD; intro h; rw [ByteArray.getElem_append_left (by decide)]; rfl
  have z3 := nDigits_le u (by omega)
  have z4 := nDigits_pos u
  have n1 := partText_ne B 99 [111, 109, 109, 101, 110, 116] (by decide)
  have n2 := partText_ne B 111 [112, 116, 105, 111, 110, 115] (by decide)
  have n3 := partText_ne B 104 [101, 97, 100, 101, 114] (by decide)
  have n4 := partText_ne B 99 [101, 114, 116, 105, 102, 105, 99, 97, 116, 101] (by decide)
  have hb := partText_body B
  have hl := partText_last B
  have hh := partText_head B
  have hd : ∀ k (h : k < D.size), (D[k].toNat : Int) = 48 + (digNum u (nDigits u) k : Int) := fun k h => dig_at u k D hD h
  have hf := first_pos u (by omega)
  generalize hs : partText B = s at *
  clear hs
  have HH : Hid (∀ k (h : k < s.size) (h' : k < (ByteArray.mk #[80, 97, 114, 116, 40]).size), s[k] = (ByteArray.mk #[80, 97, 114, 116, 40])[k]) := hh
  have HD : Hid (∀ k (h : k < D.size), (D[k].toNat : Int) = 48 + (digNum u (nDigits u) k : Int)) := hd
  have HB : s.extract 5 (s.size - 1) = B := by rw [z1]; exact hb
  have HL : ∀ (h : s.size - 1 < s.size), s[s.size - 1] = 41 := by
    have e : s.size - 1 = B.size + 5 := by omega
    rw [e]
    exact hl
  have z5 : s.size ≤ 26 := by omega
  have z6 : 7 ≤ s.size := by omega
  have b0 : 0 < B.size := by omega
  have b5 : 0 < D.size := by omega
  have b1 : ((D.size : Int) == 0) = false := by rw [beq_eq_false_iff_ne]; omega
  have b2 : B[0] = 45 := x0 b0
  have b3 : ((D[0].toNat : Int) == 48) = false := by rw [beq_eq_false_iff_ne, hd 0 b5]; omega
  have b4 : D.size ≤ 19 := by omega
  have b6 : B.size ≤ 20 := by omega
  have HZ2 : Hid (D.size = nDigits u) := z2
  have HU : Hid (1 ≤ u ∧ u ≤ 9223372036854775808) := ⟨hu, hu'⟩
  clear hl hd hb z1 z2 hD hBD hh hu hu' z3 z4 hf z7 x0
  go_enter Tryd.func5, Tryd.ntmps5
  go_wp2_with fail
  refine (prefix_yes s ⟨#[80, 97, 114, 116, 40]⟩ (show 5 ≤ _ by omega) (by omega) HH.out _).mono ?_
  rintro e w' ⟨rfl, n0, rfl⟩
  go_wp2_with fail
  clear b2 b3 n1 n2 n3 n4 HB HL HH x1
  go_loop [6, 7] (fun v i => ∃ k : Nat, k ≤ D.size ∧ i = .int .i64 k ∧ v = .int .i64 (-(headNum u (nDigits u) k : Int))) (fun _ i => D.size - (intOf i).toNat)
  case atStart => exact ⟨0, Nat.zero_le _, rfl, by rw [headNum_zero]; rfl⟩
  case round =>
    obtain ⟨k, hk, rfl, rfl⟩ := hrel
    by_cases hlt : k < D.size
    · have hc := HD.out k hlt
      have hq := headNum_step u (nDigits u) k (by rw [← HZ2.out]; exact hlt)
      have hq' := headNum_le u (nDigits u) (k + 1)
      have hdl := digNum_lt u (nDigits u) k
      have hu1 := HU.out.1
      have hu2 := HU.out.2
      have c1 : 48 ≤ (D[k].toNat : Int) := by omega
      have c2 : (D[k].toNat : Int) ≤ 57 := by omega
      have HC : Hid ((D[k].toNat : Int) = 48 + (digNum u (nDigits u) k : Int)) := hc
      have HQ : Hid (headNum u (nDigits u) (k + 1) = headNum u (nDigits u) k * 10 + digNum u (nDigits u) k) := hq
      have c3 : headNum u (nDigits u) k ≤ 922337203685477580 := by omega
      have c4 : (headNum u (nDigits u) k : Int) * 10 + ((D[k].toNat : Int) - 48) ≤ 9223372036854775808 := by omega
      clear hc hq hq' hdl hu1 hu2
      go_wp2
      go_round
      case rel => exact ⟨k + 1, by omega, by go_num, int_eq (by rw [HQ.out]; have := HC.out; omega)⟩
      case measure => simp [intOf]; omega
    · have ek : k = nDigits u := by rw [← HZ2.out]; omega
      have eq : headNum u (nDigits u) k = u := by rw [ek, headNum_all]
      have hu1 := HU.out.1
      have hu2 := HU.out.2
      rw [eq]
      clear eq ek
      go_wp2
      go_ret2
      exact ⟨rfl, n0, rfl⟩
end Go.Proofs.Qxb6628384aDoor
