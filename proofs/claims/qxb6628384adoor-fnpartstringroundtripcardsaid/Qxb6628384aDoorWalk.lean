import Derived.Test.Qxb6628384aDoorParse
import Derived.Test.Qxb6628384aDoorShelf
import Derived.Lib.ItoaLen
import Derived.Lib.ItoaMem
namespace Go.Proofs.Qxb6628384aDoor
open Go.RowKit

theorem below_grow' (w : World) (k : Nat) (os : Array Obj) : Below w.heap.size w (Sort.grow (w.drewN k) os) :=
  ⟨rfl, rfl, rfl, by simp [Sort.grow], fun i hi => by
    show (w.heap ++ os)[i]? = _
    rw [Array.getElem?_append_left hi]⟩
theorem below_drew {B : Nat} {a w : World} (h : Below B a w) (n : Nat) : Below B a (w.drewN n) := ⟨h.os, h.tape, h.output, h.size, h.block⟩

theorem str_out (n : Int) (h0 : -9223372036854775808 ≤ n) (h1 : n ≤ 9223372036854775807) (ho : n < 0 ∨ 3 < n) (w : World) (htab : Lib.TabIs Tryd.prog w tabName .u64 Lib.pow10Tab) :
    Calls Tryd.prog 4 #[.int .i64 n] w fun e w' => e = .returned (.string (partText ⟨(Lib.itoa n).toArray⟩)) ∧ Below w.heap.size w w' := by
  have hl := Lib.itoa_length_le n h0 h1
  have e0 : (n == 0) = false := by rw [beq_eq_false_iff_ne]; omega
  have e1 : (n == 1) = false := by rw [beq_eq_false_iff_ne]; omega
  have e2 : (n == 2) = false := by rw [beq_eq_false_iff_ne]; omega
  have e3 : (n == 3) = false := by rw [beq_eq_false_iff_ne]; omega
  have hz : (⟨(Lib.itoa n).toArray⟩ : ByteArray).size = (Lib.itoa n).length := by simp [ByteArray.size]
  have hc := itoa_any n h0 h1 w htab
  generalize (⟨(Lib.itoa n).toArray⟩ : ByteArray) = X at *
  have hX : X.size ≤ 21 := by omega
  clear hz hl htab ho
  have HC : Hid (Calls Tryd.prog 6 #[.int .i64 n] w fun e w' => e = .returned (.string X) ∧ ∃ k os, w' = Sort.grow (w.drewN k) os) := hc
  clear hc
  go_enter Tryd.func4, Tryd.ntmps4
  go_wp2_with fail
  refine HC.out.mono ?_
  rintro e w' ⟨rfl, k, os, rfl⟩
  go_wp2_with fail
  go_ret
  exact ⟨rfl, below_grow' _ _ _⟩

theorem walk_pos (u : Nat) (hu : 4 ≤ u) (hu' : u ≤ 9223372036854775807) (w : World) (htab : Lib.TabIs Tryd.prog w tabName .u64 Lib.pow10Tab) :
    Calls Tryd.prog 3 #[.int .i64 u] w fun e w' => e = .returned (.bool true) ∧ Below w.heap.size w w' := by
  have HC : Hid (Calls Tryd.prog 4 #[.int .i64 u] w fun e w' => e = .returned (.string (partText ⟨(Lib.itoa u).toArray⟩)) ∧ Below w.heap.size w w') := str_out u (by omega) (by omega) (by omega) w htab
  have HP : Hid (∀ w, Calls Tryd.prog 5 #[.string (partText ⟨(Lib.itoa u).toArray⟩)] w fun e w' => e = .returned (.tuple #[.int .i64 u, .bool true]) ∧ ∃ n, w' = w.drewN n) := fun w => parse_pos _ u hu hu' (by rw [Lib.itoa_nonneg]) w
  generalize (partText ⟨(Lib.itoa u).toArray⟩) = T at *
  clear htab hu hu'
  go_enter Tryd.func3, Tryd.ntmps3
  go_wp2_with fail
  refine HC.out.mono ?_
  rintro e w1 ⟨rfl, hb⟩
  have HB : Hid (Below w.heap.size w w1) := hb
  clear hb
  go_wp2_with fail
  refine (HP.out _).mono ?_
  rintro e w' ⟨rfl, n, rfl⟩
  go_wp2_with fail
  go_ret
  exact ⟨rfl, below_drew HB.out _⟩

theorem walk_neg (u : Nat) (hu : 1 ≤ u) (hu' : u ≤ 9223372036854775808) (w : World) (htab : Lib.TabIs Tryd.prog w tabName .u64 Lib.pow10Tab) :
    Calls Tryd.prog 3 #[.int .i64 (-(u : Int))] w fun e w' => e = .returned (.bool true) ∧ Below w.heap.size w w' := by
  have HC : Hid (Calls Tryd.prog 4 #[.int .i64 (-(u : Int))] w fun e w' => e = .returned (.string (partText ⟨(Lib.itoa (-(u : Int))).toArray⟩)) ∧ Below w.heap.size w w') := str_out (-(u : Int)) (by omega) (by omega) (by omega) w htab
  have HP : Hid (∀ w, Calls Tryd.prog 5 #[.string (partText ⟨(Lib.itoa (-(u : Int))).toArray⟩)] w fun e w' => e = .returned (.tuple #[.int .i64 (-(u : Int)), .bool true]) ∧ ∃ n, w' = w.drewN n) := fun w =>
    parse_neg _ ⟨(Lib.decDigits u).toArray⟩ u hu hu' rfl (by rw [Lib.itoa_neg u hu]; apply ByteArray.ext; apply Array.ext'; simp) w
  generalize (partText ⟨(Lib.itoa (-(u : Int))).toArray⟩) = T at *
  clear htab hu hu'
  generalize -(u : Int) = z at *
  go_enter Tryd.func3, Tryd.ntmps3
  go_wp2_with fail
  refine HC.out.mono ?_
  rintro e w1 ⟨rfl, hb⟩
  have HB : Hid (Below w.heap.size w w1) := hb
  clear hb
  go_wp2_with fail
  refine (HP.out _).mono ?_
  rintro e w' ⟨rfl, n, rfl⟩
  go_wp2_with fail
  go_ret
  exact ⟨rfl, below_drew HB.out _⟩

/-- The four named parts: String, then the parser. -/
theorem str_named (n : Int) (T : ByteArray) (h : (n = 0 ∧ T = ⟨#[99, 111, 109, 109, 101, 110, 116]⟩) ∨ (n = 1 ∧ T = ⟨#[111, 112, 116, 105, 111, 110, 115]⟩) ∨ (n = 2 ∧ T = ⟨#[104, 101, 97, 100, 101, 114]⟩) ∨ (n = 3 ∧ T = ⟨#[99, 101, 114, 116, 105, 102, 105, 99, 97, 116, 101]⟩)) (w : World) :
    Calls Tryd.prog 4 #[.int .i64 n] w fun e w' => e = .returned (.string T) ∧ w' = w := by
  rcases h with ⟨rfl, rfl⟩ | ⟨rfl, rfl⟩ | ⟨rfl, rfl⟩ | ⟨rfl, rfl⟩
  all_goals
    go_enter Tryd.func4, Tryd.ntmps4
    go_wp2
    go_ret
    exact ⟨rfl, rfl⟩
theorem parse_named (n : Int) (T : ByteArray) (h : (n = 0 ∧ T = ⟨#[99, 111, 109, 109, 101, 110, 116]⟩) ∨ (n = 1 ∧ T = ⟨#[111, 112, 116, 105, 111, 110, 115]⟩) ∨ (n = 2 ∧ T = ⟨#[104, 101, 97, 100, 101, 114]⟩) ∨ (n = 3 ∧ T = ⟨#[99, 101, 114, 116, 105, 102, 105, 99, 97, 116, 101]⟩)) (w : World) :
    Calls Tryd.prog 5 #[.string T] w fun e w' => e = .returned (.tuple #[.int .i64 n, .bool true]) ∧ w' = w := by
  rcases h with ⟨rfl, rfl⟩ | ⟨rfl, rfl⟩ | ⟨rfl, rfl⟩ | ⟨rfl, rfl⟩
  all_goals
    go_enter Tryd.func5, Tryd.ntmps5
    go_wp2
    go_ret2
    exact ⟨rfl, rfl⟩
theorem walk_named (n : Int) (h0 : 0 ≤ n) (h3 : n ≤ 3) (w : World) :
    Calls Tryd.prog 3 #[.int .i64 n] w fun e w' => e = .returned (.bool true) ∧ Below w.heap.size w w' := by
  obtain ⟨T, hT⟩ : ∃ T : ByteArray, (n = 0 ∧ T = ⟨#[99, 111, 109, 109, 101, 110, 116]⟩) ∨ (n = 1 ∧ T = ⟨#[111, 112, 116, 105, 111, 110, 115]⟩) ∨ (n = 2 ∧ T = ⟨#[104, 101, 97, 100, 101, 114]⟩) ∨ (n = 3 ∧ T = ⟨#[99, 101, 114, 116, 105, 102, 105, 99, 97, 116, 101]⟩) := by
    have : n = 0 ∨ n = 1 ∨ n = 2 ∨ n = 3 := by omega
    rcases this with rfl | rfl | rfl | rfl
    · exact ⟨_, Or.inl ⟨rfl, rfl⟩⟩
    · exact ⟨_, Or.inr (Or.inl ⟨rfl, rfl⟩)⟩
    · exact ⟨_, Or.inr (Or.inr (Or.inl ⟨rfl, rfl⟩))⟩
    · exact ⟨_, Or.inr (Or.inr (Or.inr ⟨rfl, rfl⟩))⟩
  have HC : Hid (∀ w, Calls Tryd.prog 4 #[.int .i64 n] w fun e w' => e = .returned (.string T) ∧ w' = w) := str_named n T hT
  have HP : Hid (∀ w, Calls Tryd.prog 5 #[.string T] w fun e w' => e = .returned (.tuple #[.int .i64 n, .bool true]) ∧ w' = w) := parse_named n T hT
  clear hT h0 h3
  go_enter Tryd.func3, Tryd.ntmps3
  go_wp2_with fail
  refine (HC.out _).mono ?_
  rintro e w1 ⟨rfl, rfl⟩
  go_wp2_with fail
  refine (HP.out _).mono ?_
  rintro e w' ⟨rfl, rfl⟩
  go_wp2_with fail
  go_ret
  exact ⟨rfl, Below.refl _ _⟩

theorem walk_any (n : Int) (h0 : -9223372036854775808 ≤ n) (h1 : n ≤ 9223372036854775807) (w : World) (htab : Lib.TabIs Tryd.prog w tabName .u64 Lib.pow10Tab) :
    Calls Tryd.prog 3 #[.int .i64 n] w fun e w' => e = .returned (.bool true) ∧ Below w.heap.size w w' := by
  by_cases hn : n < 0
  · obtain ⟨u, rfl⟩ : ∃ u : Nat, n = -(u : Int) := ⟨n.natAbs, by omega⟩
    exact walk_neg u (by omega) (by omega) w htab
  · by_cases h3 : n ≤ 3
    · exact walk_named n (by omega) h3 w
    · obtain ⟨u, rfl⟩ := Int.eq_ofNat_of_zero_le (show 0 ≤ n by omega)
      exact walk_pos u (by omega) (by omega) w htab
end Go.Proofs.Qxb6628384aDoor
