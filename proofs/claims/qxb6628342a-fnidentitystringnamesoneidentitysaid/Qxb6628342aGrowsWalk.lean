import Derived.Test.Qxb6628342aIdent

namespace Go.Proofs.Qxb6628342a
open Go.RowKit
theorem Grown.drewN' {W w' : World} (h : Grown W w') (n : Nat) : Grown W (w'.drewN n) := h
theorem saText_size (a b : ByteArray) : (saText a b).size = 16 + a.size + b.size := by
  unfold saText
  simp only [ByteArray.size_append]
  rw [show (ByteArray.mk #[115, 101, 114, 118, 105, 99, 101, 97, 99, 99, 111, 117, 110, 116, 58]).size = 15 from rfl, show (ByteArray.mk #[47]).size = 1 from rfl]
  omega
theorem spText_size (a : ByteArray) : (spText a).size = 7 + a.size := by
  unfold spText
  simp only [ByteArray.size_append]
  rw [show (ByteArray.mk #[115, 112, 105, 102, 102, 101, 58]).size = 7 from rfl]
theorem saText_app (a b c : ByteArray) : saText a (b ++ c) = saText a b ++ c := by
  simp [saText, ByteArray.append_assoc]
theorem spText_app (b c : ByteArray) : spText (b ++ c) = spText b ++ c := by
  simp [spText, ByteArray.append_assoc]

theorem ne_app (a b : ByteArray) (h : a.toList.isEmpty = false) : (a ++ b).toList.isEmpty = false := by
  rw [ByteArray.toList_eq] at *
  simp at *
  intro h'
  exact absurd h' h
theorem ret_bool {a b : Bool} (h : a = b) : Ending.returned (.bool a) = .returned (.bool b) := by rw [h]

theorem walk_sa (a1 : ByteArray) (a2 : ByteArray) (a3 : ByteArray) (a4 : ByteArray) (a5 : ByteArray) (w1 : a1.size ≤ maxLen) (w2 : a2.size ≤ maxLen) (w3 : a3.size ≤ maxLen) (w4 : a4.size ≤ maxLen) (w5 : a5.size ≤ maxLen) (w : World) :
    Calls Try.prog 4 #[.bool true, .string a1, .string a2, .string a3, .string a4, .string a5] w fun e w' => e = .returned (.bool true) ∧ Grown w w' := by
  go_enter Try.func4, Try.ntmps4
  go_wp2_with (go_at_call 10; refine (zzBytes_grow _ a1 a2 a3 a4 a5 w1 w2 w3 w4 w5 _).mono ?_; rintro e w' ⟨b, rfl, rfl⟩)
  · go_ret; exact ⟨rfl, Grown.refl _⟩
  · go_ret; exact ⟨rfl, Grown.refl _⟩
  · go_ret; exact ⟨rfl, Grown.refl _⟩
  · go_ret; exact ⟨rfl, Grown.refl _⟩
  · go_ret; exact ⟨rfl, Grown.refl _⟩
  · go_ret; exact ⟨rfl, Grown.refl _⟩
  have g1 : (a1.size : Int) ≤ 65536 := by assumption
  have g2 : (a2.size : Int) ≤ 65536 := by assumption
  have g4 : (a4.size : Int) ≤ 65536 := by assumption
  have s0 := saText_size a1 a2
  have s1 : a1.size + a2.size < (saText a1 a2).size := by omega
  have s2 : (saText a1 a2).size + a4.size ≤ 1000000 := by omega
  have s3 : (saText a1 (a2 ++ a4)).toList = (saText a1 a2 ++ a4).toList := by rw [saText_app]
  clear s0
  refine (ident_yes a1 (a2 ++ a4) a3 _).mono ?_
  rintro e w' ⟨rfl, c1, rfl⟩
  go_wp2_with fail
  refine (str_sa _ a1 (a2 ++ a4) a3 _ ?_ ?_ ?_ (by omega) (by simp; omega)).mono ?_
  · simp
  · simp [go_sem]
  · simp [go_sem]
  rintro e w' ⟨rfl, c2, n2, rfl⟩
  go_wp2_with fail
  refine (ident_yes a1 a2 a5 _).mono ?_
  rintro e w' ⟨rfl, c3, rfl⟩
  go_wp2_with fail
  refine (str_sa _ a1 a2 a5 _ ?_ ?_ ?_ (by omega) (by omega)).mono ?_
  · simp
  · simp [go_sem]
  · simp [go_sem]
  rintro e w' ⟨rfl, c4, n4, rfl⟩
  go_wp2_with fail
  go_ret
  exact ⟨ret_bool (decide_eq_true (by omega)), by repeat (first | exact Grown.refl _ | apply Grown.drewN' | apply Grown.alloc)⟩

theorem walk_sp (a1 : ByteArray) (a2 : ByteArray) (a3 : ByteArray) (a4 : ByteArray) (a5 : ByteArray) (w1 : a1.size ≤ maxLen) (w2 : a2.size ≤ maxLen) (w3 : a3.size ≤ maxLen) (w4 : a4.size ≤ maxLen) (w5 : a5.size ≤ maxLen) (hne : a3.toList.isEmpty = false) (w : World) :
    Calls Try.prog 4 #[.bool false, .string a1, .string a2, .string a3, .string a4, .string a5] w fun e w' => e = .returned (.bool true) ∧ Grown w w' := by
  go_enter Try.func4, Try.ntmps4
  go_wp2_with (go_at_call 10; refine (zzBytes_grow _ a1 a2 a3 a4 a5 w1 w2 w3 w4 w5 _).mono ?_; rintro e w' ⟨b, rfl, rfl⟩)
  · go_ret; exact ⟨rfl, Grown.refl _⟩
  · go_ret; exact ⟨rfl, Grown.refl _⟩
  · go_ret; exact ⟨rfl, Grown.refl _⟩
  · go_ret; exact ⟨rfl, Grown.refl _⟩
  · go_ret; exact ⟨rfl, Grown.refl _⟩
  · go_ret; exact ⟨rfl, Grown.refl _⟩
  have g3 : (a3.size : Int) ≤ 65536 := by assumption
  have g4 : (a4.size : Int) ≤ 65536 := by assumption
  have s0 := spText_size a3
  have s1 : a3.size < (spText a3).size := by omega
  have s2 : (spText a3).size + a4.size ≤ 1000000 := by omega
  have s3 : (spText (a3 ++ a4)).toList = (spText a3 ++ a4).toList := by rw [spText_app]
  clear s0
  refine (ident_no a1 a2 (a3 ++ a4) _).mono ?_
  rintro e w' ⟨rfl, c1, rfl⟩
  go_wp2_with fail
  refine (str_sp (a3 ++ a4) ?_ (by simp; omega) _).mono ?_
  · exact ne_app a3 a4 hne
  rintro e w' ⟨rfl, c2, rfl⟩
  go_wp2_with fail
  refine (ident_no a1 a2 a3 _).mono ?_
  rintro e w' ⟨rfl, c3, rfl⟩
  go_wp2_with fail
  refine (str_sp a3 hne (by omega) _).mono ?_
  rintro e w' ⟨rfl, c4, rfl⟩
  go_wp2_with fail
  go_ret
  exact ⟨rfl, by repeat (first | exact Grown.refl _ | apply Grown.drewN' | apply Grown.alloc)⟩

theorem walk_an (a1 : ByteArray) (a2 : ByteArray) (a3 : ByteArray) (a4 : ByteArray) (a5 : ByteArray) (w1 : a1.size ≤ maxLen) (w2 : a2.size ≤ maxLen) (w3 : a3.size ≤ maxLen) (w4 : a4.size ≤ maxLen) (w5 : a5.size ≤ maxLen) (hne : a3.toList.isEmpty = true) (w : World) :
    Calls Try.prog 4 #[.bool false, .string a1, .string a2, .string a3, .string a4, .string a5] w fun e w' => e = .returned (.bool true) ∧ Grown w w' := by
  go_enter Try.func4, Try.ntmps4
  go_wp2_with (go_at_call 10; refine (zzBytes_grow _ a1 a2 a3 a4 a5 w1 w2 w3 w4 w5 _).mono ?_; rintro e w' ⟨b, rfl, rfl⟩)
  all_goals (go_ret; exact ⟨rfl, Grown.refl _⟩)
theorem walk_grows (a0 : Bool) (a1 : ByteArray) (a2 : ByteArray) (a3 : ByteArray) (a4 : ByteArray) (a5 : ByteArray) (w1 : a1.size ≤ maxLen) (w2 : a2.size ≤ maxLen) (w3 : a3.size ≤ maxLen) (w4 : a4.size ≤ maxLen) (w5 : a5.size ≤ maxLen) (w : World) :
    Calls Try.prog 4 #[.bool a0, .string a1, .string a2, .string a3, .string a4, .string a5] w fun e w' => e = .returned (.bool true) ∧ Grown w w' := by
  cases a0
  · cases h : a3.toList.isEmpty
    · exact walk_sp a1 a2 a3 a4 a5 w1 w2 w3 w4 w5 h w
    · exact walk_an a1 a2 a3 a4 a5 w1 w2 w3 w4 w5 h w
  · exact walk_sa a1 a2 a3 a4 a5 w1 w2 w3 w4 w5 w
end Go.Proofs.Qxb6628342a
