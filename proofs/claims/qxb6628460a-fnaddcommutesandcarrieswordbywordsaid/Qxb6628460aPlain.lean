/- THE PLAIN LAWS: sums of two-word and three-number limbs; masks and joins of 32-bit halves. -/
import Derived.Laws.Bits64
import Derived.Laws.BitsAllLaws
namespace Go.Proofs.Qxb6628460a
open Go
/-- A word. -/
def Word (x : Int) : Prop := 0 ≤ x ∧ x < 18446744073709551616

theorem mask (x : Int) (h0 : 0 ≤ x) (h1 : x < 18446744073709551616) : bits .and .u64 x 4294967295 = x % 4294967296 := by
  rw [u64_and x 4294967295 h0 h1 (by decide) (by decide)]
  have : (4294967295 : Int).toNat = 2 ^ 32 - 1 := by decide
  rw [this, Nat.and_two_pow_sub_one_eq_mod]
  omega
theorem join (a b : Int) (a0 : 0 ≤ a) (a1 : a < 4294967296) (b0 : 0 ≤ b) (b1 : b < 4294967296) : bits .or .u64 a (b * 4294967296) = a + b * 4294967296 := by
  rw [u64_or a (b * 4294967296) a0 (by omega) (by omega) (by omega), Nat.or_comm, nat_join 32 _ _ (by omega) (by omega)]
  omega
theorem wrap_id (x : Int) (h0 : 0 ≤ x) (h1 : x < 18446744073709551616) : IntKind.u64.wrap x = x := by
  rw [IntKind.wrap_u64, Int.emod_eq_of_lt h0 h1]

/-- zzSum3's limbs, in the walk's own forms. -/
def l0 (al bl cl : Int) : Int := IntKind.u64.wrap (IntKind.u64.wrap (bits .and .u64 al 4294967295 + bits .and .u64 bl 4294967295) + bits .and .u64 cl 4294967295)
def l1 (al bl cl : Int) : Int := IntKind.u64.wrap (al / 4294967296 + bl / 4294967296 + cl / 4294967296 + l0 al bl cl / 4294967296)
def l2 (ah bh ch al bl cl : Int) : Int := IntKind.u64.wrap (IntKind.u64.wrap (IntKind.u64.wrap (bits .and .u64 ah 4294967295 + bits .and .u64 bh 4294967295) + bits .and .u64 ch 4294967295) + l1 al bl cl / 4294967296)
def l3 (ah bh ch al bl cl : Int) : Int := IntKind.u64.wrap (ah / 4294967296 + bh / 4294967296 + ch / 4294967296 + l2 ah bh ch al bl cl / 4294967296)
def loV (al bl cl : Int) : Int := bits .or .u64 (bits .and .u64 (l0 al bl cl) 4294967295) (IntKind.u64.wrap (bits .and .u64 (l1 al bl cl) 4294967295 * 4294967296))
def hiV (ah bh ch al bl cl : Int) : Int := bits .or .u64 (bits .and .u64 (l2 ah bh ch al bl cl) 4294967295) (IntKind.u64.wrap (bits .and .u64 (l3 ah bh ch al bl cl) 4294967295 * 4294967296))
def okV (ah bh ch al bl cl : Int) : Bool := l3 ah bh ch al bl cl / 4294967296 == 0

theorem l0_eq (al bl cl : Int) (a : Word al) (b : Word bl) (c : Word cl) : l0 al bl cl = al % 4294967296 + bl % 4294967296 + cl % 4294967296 := by
  unfold l0
  rw [mask al a.1 a.2, mask bl b.1 b.2, mask cl c.1 c.2, wrap_id (al % 4294967296 + _) (by omega) (by omega), wrap_id _ (by omega) (by omega)]
theorem l1_eq (al bl cl : Int) (a : Word al) (b : Word bl) (c : Word cl) : l1 al bl cl = al / 4294967296 + bl / 4294967296 + cl / 4294967296 + (al % 4294967296 + bl % 4294967296 + cl % 4294967296) / 4294967296 := by
  unfold l1
  rw [l0_eq al bl cl a b c]
  obtain ⟨_, _⟩ := a; obtain ⟨_, _⟩ := b; obtain ⟨_, _⟩ := c
  exact wrap_id _ (by omega) (by omega)
theorem l1_lt (al bl cl : Int) (a : Word al) (b : Word bl) (c : Word cl) : 0 ≤ l1 al bl cl ∧ l1 al bl cl < 17179869184 := by
  rw [l1_eq al bl cl a b c]
  obtain ⟨_, _⟩ := a; obtain ⟨_, _⟩ := b; obtain ⟨_, _⟩ := c
  omega
/-- The low word and what it carries. -/
theorem low_eq (al bl cl : Int) (a : Word al) (b : Word bl) (c : Word cl) : loV al bl cl = (al + bl + cl) % 18446744073709551616 ∧ l1 al bl cl / 4294967296 = (al + bl + cl) / 18446744073709551616 := by
  have h0 := l0_eq al bl cl a b c
  have h1 := l1_eq al bl cl a b c
  have h1' := l1_lt al bl cl a b c
  rw [← h0] at h1
  unfold loV
  generalize l0 al bl cl = x at *
  generalize l1 al bl cl = y at *
  obtain ⟨_, _⟩ := a; obtain ⟨_, _⟩ := b; obtain ⟨_, _⟩ := c
  have x0 : 0 ≤ x := by omega
  have x1 : x < 18446744073709551616 := by omega
  rw [mask x x0 x1, mask y h1'.1 (by omega), wrap_id _ (by omega) (by omega), join _ _ (by omega) (by omega) (by omega) (by omega)]
  have e : al + bl + cl = x % 4294967296 + 4294967296 * y := by omega
  rw [e]
  omega
theorem l2_eq (ah bh ch al bl cl : Int) (a : Word ah) (b : Word bh) (c : Word ch) (a' : Word al) (b' : Word bl) (c' : Word cl) :
    l2 ah bh ch al bl cl = ah % 4294967296 + bh % 4294967296 + ch % 4294967296 + (al + bl + cl) / 18446744073709551616 := by
  unfold l2
  rw [(low_eq al bl cl a' b' c').2, mask ah a.1 a.2, mask bh b.1 b.2, mask ch c.1 c.2]
  obtain ⟨_, _⟩ := a'; obtain ⟨_, _⟩ := b'; obtain ⟨_, _⟩ := c'
  rw [wrap_id (ah % 4294967296 + bh % 4294967296) (by omega) (by omega), wrap_id (ah % 4294967296 + bh % 4294967296 + _) (by omega) (by omega), wrap_id _ (by omega) (by omega)]
theorem l3_eq (ah bh ch al bl cl : Int) (a : Word ah) (b : Word bh) (c : Word ch) (a' : Word al) (b' : Word bl) (c' : Word cl) :
    l3 ah bh ch al bl cl = ah / 4294967296 + bh / 4294967296 + ch / 4294967296 + l2 ah bh ch al bl cl / 4294967296 := by
  have h2 := l2_eq ah bh ch al bl cl a b c a' b' c'
  unfold l3
  generalize l2 ah bh ch al bl cl = z at *
  obtain ⟨_, _⟩ := a; obtain ⟨_, _⟩ := b; obtain ⟨_, _⟩ := c
  obtain ⟨_, _⟩ := a'; obtain ⟨_, _⟩ := b'; obtain ⟨_, _⟩ := c'
  exact wrap_id _ (by omega) (by omega)
/-- The high word and what it carries. -/
theorem high_eq (ah bh ch al bl cl : Int) (a : Word ah) (b : Word bh) (c : Word ch) (a' : Word al) (b' : Word bl) (c' : Word cl) :
    hiV ah bh ch al bl cl = (ah + bh + ch + (al + bl + cl) / 18446744073709551616) % 18446744073709551616 ∧
    l3 ah bh ch al bl cl / 4294967296 = (ah + bh + ch + (al + bl + cl) / 18446744073709551616) / 18446744073709551616 := by
  have h2 := l2_eq ah bh ch al bl cl a b c a' b' c'
  have h3 := l3_eq ah bh ch al bl cl a b c a' b' c'
  have k0 : 0 ≤ (al + bl + cl) / 18446744073709551616 ∧ (al + bl + cl) / 18446744073709551616 ≤ 2 := by
    obtain ⟨_, _⟩ := a'; obtain ⟨_, _⟩ := b'; obtain ⟨_, _⟩ := c'
    omega
  unfold hiV
  generalize l2 ah bh ch al bl cl = x at *
  generalize l3 ah bh ch al bl cl = y at *
  generalize (al + bl + cl) / 18446744073709551616 = k at *
  obtain ⟨_, _⟩ := a; obtain ⟨_, _⟩ := b; obtain ⟨_, _⟩ := c
  have x0 : 0 ≤ x := by omega
  have x1 : x < 18446744073709551616 := by omega
  have y0 : 0 ≤ y := by omega
  have y1 : y < 17179869184 := by omega
  rw [mask x x0 x1, mask y y0 (by omega), wrap_id _ (by omega) (by omega), join _ _ (by omega) (by omega) (by omega) (by omega)]
  have e : ah + bh + ch + k = x % 4294967296 + 4294967296 * y := by omega
  rw [e]
  omega
end Go.Proofs.Qxb6628460a
