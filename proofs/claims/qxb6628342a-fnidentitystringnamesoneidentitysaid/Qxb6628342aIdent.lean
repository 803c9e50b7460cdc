import Derived.Test.Qxb6628342aRows
import Derived.WalkKit
import Derived.WalkSpells
import Derived.WalkLawsBesides
import Derived.RowKit3
import Derived.BigQuiet
namespace Go.Proofs.Qxb6628342a
open Go.RowKit

def saText (ns name : ByteArray) : ByteArray := ⟨#[115, 101, 114, 118, 105, 99, 101, 97, 99, 99, 111, 117, 110, 116, 58]⟩ ++ ns ++ ⟨#[47]⟩ ++ name
def spText (sp : ByteArray) : ByteArray := ⟨#[115, 112, 105, 102, 102, 101, 58]⟩ ++ sp
def anonText : ByteArray := ⟨#[97, 110, 111, 110, 121, 109, 111, 117, 115]⟩

theorem str_sa (b : Nat) (ns name sp : ByteArray) (w : World) (hb : b < w.heap.size) (h0 : w.cell? ⟨b, 0, none⟩ = some (.string ns)) (h1 : w.cell? ⟨b, 1, none⟩ = some (.string name))
    (n0 : ns.size ≤ 1048576) (n1 : name.size ≤ 1048576) :
    Calls Try.prog 8 #[.agg #[.pointer (some ⟨b, 0, none⟩), .string sp]] w fun e w' => e = .returned (.string (saText ns name)) ∧ ∃ c1 : Array Value, ∃ n, w' = (w.alloc (.cells c1 26)).drewN n := by
  go_enter Try.func8, Try.ntmps8
  go_wp2
  go_quiet (fail)
  go_wp2

  go_ret
  exact ⟨rfl, _, _, rfl⟩

theorem str_sp (sp : ByteArray) (hne : sp.toList.isEmpty = false) (n0 : sp.size ≤ 1048576) (w : World)  :
    Calls Try.prog 8 #[.agg #[.pointer none, .string sp]] w fun e w' => e = .returned (.string (spText sp)) ∧ ∃ c1 : Array Value, w' = (w.alloc (.cells c1 26)) := by
  go_enter Try.func8, Try.ntmps8
  go_wp2

  go_ret
  exact ⟨rfl, _, rfl⟩
theorem str_an (w : World)  :
    Calls Try.prog 8 #[.agg #[.pointer none, .string ⟨#[]⟩]] w fun e w' => e = .returned (.string anonText) ∧ ∃ c1 : Array Value, w' = (w.alloc (.cells c1 26)) := by
  go_enter Try.func8, Try.ntmps8
  go_wp2

  go_ret
  exact ⟨rfl, _, rfl⟩
theorem zzBytes_grow (a0 : Bool) (a1 a2 a3 a4 a5 : ByteArray) (w1 : a1.size ≤ maxLen) (w2 : a2.size ≤ maxLen) (w3 : a3.size ≤ maxLen) (w4 : a4.size ≤ maxLen) (w5 : a5.size ≤ maxLen) (w : World) :
    Calls Try.prog 10 #[.bool a0, .string a1, .string a2, .string a3, .string a4, .string a5] w fun e w' => ∃ b : Bool, e = .returned (.bool b) ∧ w = w' := by
  unfold maxLen at w1 w2 w3 w4 w5
  go_enter Try.func10, Try.ntmps10
  go_wp2
  all_goals (go_ret; exact ⟨_, rfl, rfl⟩)

theorem ident_no (ns name sp : ByteArray) (w : World) :
    Calls Try.prog 7 #[.bool false, .string ns, .string name, .string sp] w fun e w' => e = .returned (.agg #[.pointer none, .string sp]) ∧ ∃ c1 : Array Value, w' = w.alloc (.cells c1 26) := by
  go_enter Try.func7, Try.ntmps7
  go_wp2
  simp [bodyPost, results, Try.results7, go_sem]
  exact ⟨_, rfl⟩

theorem ident_yes (ns name sp : ByteArray) (w : World) :
    Calls Try.prog 7 #[.bool true, .string ns, .string name, .string sp] w fun e w' => e = .returned (.agg #[.pointer (some ⟨w.heap.size + 1, 0, none⟩), .string sp]) ∧ ∃ c1 : Array Value, w' = (w.alloc (.cells c1 26)).alloc (.cells #[.string ns, .string name] 33) := by
  go_enter Try.func7, Try.ntmps7
  go_wp2
  simp [bodyPost, results, Try.results7, go_sem]
  exact ⟨_, rfl⟩
end Go.Proofs.Qxb6628342a
