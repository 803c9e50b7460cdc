import Derived.Test.Qxb6628460aRows
import Derived.Test.Qxb6628460aPlain
import Derived.WalkKit
import Derived.WalkSpells
import Derived.WalkLawsBesides
import Derived.RowKit3
import Derived.BigQuiet
import Derived.Laws.Externs
import Derived.Deep.RegionHeld3
import Derived.StillTactics
import Derived.Laws.Pointers
import Derived.OpenShut
namespace Go.Proofs.Qxb6628460a
open Go.RowKit
theorem sum3_any (ah al bh bl ch cl : Int) (a : Word ah) (a' : Word al) (b : Word bh) (b' : Word bl) (c : Word ch) (c' : Word cl) (w : World) :
    Calls Try.prog 5 #[.int .u64 ah, .int .u64 al, .int .u64 bh, .int .u64 bl, .int .u64 ch, .int .u64 cl] w fun e w' =>
      e = .returned (.tuple #[.int .u64 (hiV ah bh ch al bl cl), .int .u64 (loV al bl cl), .bool (okV ah bh ch al bl cl)]) ∧ w = w' := by
  obtain ⟨_, _⟩ := a; obtain ⟨_, _⟩ := b; obtain ⟨_, _⟩ := c
  obtain ⟨_, _⟩ := a'; obtain ⟨_, _⟩ := b'; obtain ⟨_, _⟩ := c'
  go_enter Try.func5, Try.ntmps5
  go_wp2
  go_ret3
  exact ⟨rfl, rfl⟩

theorem add64 (x y c : Int) (hx : 0 ≤ x) (hy : 0 ≤ y) (hc0 : 0 ≤ c) (hc : c ≤ 1) (w : World) : (callFunc 10 #[.int .u64 x, .int .u64 y, .int .u64 c]).run Try.prog w =
    .ok (.value (.tuple #[.int .u64 ((x + y + c) % 18446744073709551616), .int .u64 ((x + y + c) / 18446744073709551616)])) w := by
  obtain ⟨x, rfl⟩ := Int.eq_ofNat_of_zero_le hx
  obtain ⟨y, rfl⟩ := Int.eq_ofNat_of_zero_le hy
  obtain ⟨c, rfl⟩ := Int.eq_ofNat_of_zero_le hc0
  rw [run_callFunc_extern Try.func10 (by kernel_rfl) (by kernel_rfl) (by kernel_rfl) (e := add64Entry) (by kernel_rfl), run_add64 x y c (by omega) (by omega) (by omega) (by omega)]
  simp only [Result.andThen]
theorem add64_0 (x y : Int) (hx : 0 ≤ x) (hy : 0 ≤ y) (w : World) : (callFunc 10 #[.int .u64 x, .int .u64 y, .int .u64 0]).run Try.prog w =
    .ok (.value (.tuple #[.int .u64 ((x + y) % 18446744073709551616), .int .u64 ((x + y) / 18446744073709551616)])) w := by
  simpa using add64 x y 0 hx hy (Int.le_refl 0) (by decide) w

theorem dec_any (h l : Int) (w : World) :
    Calls Try.prog 6 #[.int .u64 h, .int .u64 l] w fun e w' => e = .returned (.agg #[.int .u64 h, .int .u64 l]) ∧ ∃ c1 : Array Value, w' = w.alloc (.cells c1 26) := by
  go_enter Try.func6, Try.ntmps6
  go_wp2
  simp [bodyPost, results, Try.results6, go_sem]
  exact ⟨_, rfl⟩
theorem hi_any (h l : Int) (w : World) :
    Calls Try.prog 8 #[.agg #[.int .u64 h, .int .u64 l]] w fun e w' => e = .returned (.int .u64 h) ∧ ∃ c1 : Array Value, w' = w.alloc (.cells c1 26) := by
  go_enter Try.func8, Try.ntmps8
  go_wp2
  go_ret
  exact ⟨rfl, _, rfl⟩
theorem lo_any (h l : Int) (w : World) :
    Calls Try.prog 9 #[.agg #[.int .u64 h, .int .u64 l]] w fun e w' => e = .returned (.int .u64 l) ∧ ∃ c1 : Array Value, w' = w.alloc (.cells c1 26) := by
  go_enter Try.func9, Try.ntmps9
  go_wp2
  go_ret
  exact ⟨rfl, _, rfl⟩

theorem add_any (ah al bh bl : Int) (h1 : Word ah) (h2 : Word al) (h3 : Word bh) (h4 : Word bl) (hn : ah + bh + (al + bl) / 18446744073709551616 < 18446744073709551616) (w : World) :
    Calls Try.prog 7 #[.agg #[.int .u64 ah, .int .u64 al], .agg #[.int .u64 bh, .int .u64 bl]] w fun e w' =>
      e = .returned (.agg #[.int .u64 (ah + bh + (al + bl) / 18446744073709551616), .int .u64 ((al + bl) % 18446744073709551616)]) ∧ ∃ c1 c2 c3 : Array Value, w' = ((w.alloc (.cells c1 26)).alloc (.cells c2 26)).alloc (.cells c3 26) := by
  obtain ⟨a1, a2⟩ := h1; obtain ⟨b1, b2⟩ := h2; obtain ⟨c1, c2⟩ := h3; obtain ⟨d1, d2⟩ := h4
  have k0 : 0 ≤ (al + bl) / 18446744073709551616 := by omega
  have k1 : (al + bl) / 18446744073709551616 ≤ 1 := by omega
  have k2 : (ah + bh + (al + bl) / 18446744073709551616) / 18446744073709551616 = 0 := by omega
  have k3 : (ah + bh + (al + bl) / 18446744073709551616) % 18446744073709551616 = ah + bh + (al + bl) / 18446744073709551616 := by omega
  go_enter Try.func7, Try.ntmps7
  go_wp2_with (first | simp only [add64_0 al bl b1 d1] | simp only [add64 ah bh _ a1 c1 k0 k1])
  simp [bodyPost, results, Try.results7, go_sem]
  exact ⟨_, _, _, rfl⟩

/-- (ah, al) + (bh, bl) = (h, l), and it fits. -/
def Adds (ah al bh bl h l : Int) : Prop := (Word ah ∧ Word al ∧ Word bh ∧ Word bl) ∧ ah + bh + (al + bl) / 18446744073709551616 < 18446744073709551616 ∧ h = ah + bh + (al + bl) / 18446744073709551616 ∧ l = (al + bl) % 18446744073709551616
theorem add_rel {ah al bh bl h l : Int} (H : Adds ah al bh bl h l) (w : World) :
    Calls Try.prog 7 #[.agg #[.int .u64 ah, .int .u64 al], .agg #[.int .u64 bh, .int .u64 bl]] w fun e w' =>
      e = .returned (.agg #[.int .u64 h, .int .u64 l]) ∧ ∃ c1 c2 c3 : Array Value, w' = ((w.alloc (.cells c1 26)).alloc (.cells c2 26)).alloc (.cells c3 26) := by
  obtain ⟨⟨a, b, c, d⟩, hn, rfl, rfl⟩ := H
  exact add_any ah al bh bl a b c d hn w

/-- A uint64 argument is a word. -/
theorem word_of {x : Int} (h : (Lit.int .u64 x).wf = true) : Word x := by
  have := bounds_u64 h
  exact ⟨by omega, by omega⟩
end Go.Proofs.Qxb6628460a
