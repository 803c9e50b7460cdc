import Derived.Test.Qxb6628400aRows
import Derived.WalkKit
import Derived.WalkSpells
import Derived.WalkLawsBesides
import Derived.RowKit3
import Derived.BigQuiet
import Derived.Deep.MidRow
namespace Go.Proofs.Qxb6628400a
open Go.RowKit
def boolsOf (f : Nat → Bool) : List Value := (List.range 256).map fun i => Value.bool (f i)
def setCells257 (f : Nat → Bool) (x : Int) : Array Value := (boolsOf f ++ [Value.int .u64 x]).toArray
theorem zero33 (w : World) : Sem.run Try.prog (zeroValue 33) w = .ok (.agg (setCells257 (fun _ => false) 0)) w := by kernel_rfl
def mem (l : List UInt8) (i : Nat) : Bool := l.any (fun c => c.toNat == i)
def top (l : List UInt8) : Nat := l.foldl (fun m c => max m c.toNat) 0

/-- The word below: the byte above the greatest, in every byte. -/
def word (l : List UInt8) : Int := ((top l : Int) + 1) % 256 * 72340172838076673

theorem size257 (f : Nat → Bool) (x : Int) : (setCells257 f x).size = 257 := by simp [setCells257, boolsOf]
theorem get257 (f : Nat → Bool) (x : Int) (i : Nat) (h : i < 256) : (setCells257 f x)[i]? = some (.bool (f i)) := by
  simp [setCells257, boolsOf, h, List.getElem?_append]
theorem last257 (f : Nat → Bool) (x : Int) : (setCells257 f x)[256]? = some (.int .u64 x) := by
  simp [setCells257, boolsOf]
theorem set257 (f : Nat → Bool) (x : Int) (i : Nat) (h : i < 256) : (setCells257 f x).setIfInBounds i (.bool true) = setCells257 (fun j => f j || i == j) x := by
  apply Array.ext_getElem?
  intro j
  rw [Array.getElem?_setIfInBounds, size257]
  by_cases hj : j < 256
  · rw [get257 _ _ _ hj, get257 _ _ _ hj]
    by_cases e : i = j
    · subst e; simp; omega
    · simp [e]
  · rw [if_neg (by omega)]
    simp [setCells257, boolsOf, List.getElem?_append, hj]
theorem setLast257 (f : Nat → Bool) (x y : Int) : (setCells257 f x).setIfInBounds 256 (.int .u64 y) = setCells257 f y := by
  apply Array.ext_getElem?
  intro j
  rw [Array.getElem?_setIfInBounds, size257]
  by_cases hj : j < 256
  · rw [get257 _ _ _ hj, if_neg (by omega), get257 _ _ _ hj]
  · by_cases e : 256 = j
    · subst e; simp [last257]
    · rw [if_neg e]
      have : 257 ≤ j := by omega
      rw [Array.getElem?_eq_none (by rw [size257]; exact this), Array.getElem?_eq_none (by rw [size257]; exact this)]

theorem top_snoc (l : List UInt8) (c : UInt8) : top (l ++ [c]) = max (top l) c.toNat := by simp [top]
theorem mem_snoc (l : List UInt8) (c : UInt8) (i : Nat) : mem (l ++ [c]) i = (mem l i || c.toNat == i) := by simp [mem]
theorem top_lt (l : List UInt8) : top l < 256 := by
  suffices h : ∀ (l : List UInt8) m, m < 256 → l.foldl (fun m c => max m c.toNat) m < 256 from h l 0 (by decide)
  intro l
  induction l with
  | nil => intro m h; exact h
  | cons c l ih => intro m h; exact ih _ (by have := c.toNat_lt; simp at this ⊢; omega)

theorem int_u8 {a b : Int} (h : a = b) : Value.int .u8 a = Value.int .u8 b := by rw [h]
theorem take_snoc (s : ByteArray) (k : Nat) (h : k < s.size) : s.data.toList.take (k + 1) = s.data.toList.take k ++ [s[k]] := by
  rw [List.take_succ_eq_append_getElem (by simpa using h)]; rfl
theorem set_new (w : World) (C : Array Value) (t : TypeId) (i n : Nat) (v : Value) : ((w.alloc (.cells C t)).drewN n).setCell ⟨w.heap.size, i, none⟩ v = (w.alloc (.cells (C.setIfInBounds i v) t)).drewN n := by
  have := World.setCell_alloc_at (w := w) C t w.heap.size i v rfl
  rw [← this]
  rfl
set_option maxHeartbeats 400000 in
theorem new_any (s : ByteArray) (hs : s.size ≤ 1048577) (w : World) :
    Calls Try.prog 9 #[.string s] w fun e w' => e = .returned (.pointer (some ⟨w.heap.size, 0, none⟩)) ∧ ∃ n, w' = (w.alloc (.cells (setCells257 (mem s.data.toList) (word s.data.toList)) 33)).drewN n := by
  have hz := zero33
  go_enter Try.func9, Try.ntmps9
  go_wp2
  clear hz
  go_loopw [4, 10] (fun t i w' => ∃ k n : Nat, k ≤ s.size ∧ i = .int .i64 k ∧ t = .int .u8 (top (s.data.toList.take k)) ∧ w' = (w.alloc (.cells (setCells257 (mem (s.data.toList.take k)) 0) 33)).drewN n) (fun _ i _ => s.size - (intOf i).toNat)
  case atStart => exact ⟨0, 0, Nat.zero_le _, rfl, rfl, rfl⟩
  case round =>
    obtain ⟨k, n, hk, rfl, rfl, rfl⟩ := hrel
    by_cases hlt : k < s.size
    · have hc := s[k].toNat_lt
      have hg := get257 (mem (s.data.toList.take k)) 0 s[k].toNat hc
      have ht := top_lt (s.data.toList.take k)
      have HS : Hid ((setCells257 (mem (s.data.toList.take k)) 0).setIfInBounds s[k].toNat (.bool true) = setCells257 (mem (s.data.toList.take (k + 1))) 0) := by
        have e : mem (s.data.toList.take (k + 1)) = fun j => mem (s.data.toList.take k) j || s[k].toNat == j := by
          funext j; rw [take_snoc s k hlt, mem_snoc]
        rw [e]
        exact set257 _ _ _ hc
      have HT : Hid (top (s.data.toList.take (k + 1)) = max (top (s.data.toList.take k)) s[k].toNat) := by
        rw [take_snoc s k hlt, top_snoc]; exact rfl
      generalize setCells257 (mem (s.data.toList.take k)) 0 = C at *
      generalize top (s.data.toList.take k) = T at *
      go_wp2
      go_region
      go_wp2
      go_roundw
      case rel => exact ⟨k + 1, n + 1, by omega, by go_num, int_u8 (by rw [HT.out]; split <;> omega), by rw [← HS.out]; exact set_new _ _ _ _ _ _⟩
      case measure => simp [intOf]; omega
    · have ek : k = s.size := by omega
      have et : s.data.toList.take k = s.data.toList := by rw [ek]; exact List.take_of_length_le (by simp)
      rw [et]
      clear et ek
      have hl := last257 (mem s.data.toList) 0
      have ht := top_lt s.data.toList
      have HS : Hid (∀ y, (setCells257 (mem s.data.toList) 0).setIfInBounds 256 (.int .u64 y) = setCells257 (mem s.data.toList) y) := setLast257 _ _
      have HT : Hid (((top s.data.toList : Int) + 1) % 256 * 72340172838076673 = word s.data.toList) := rfl
      generalize setCells257 (mem s.data.toList) 0 = C at *
      generalize top s.data.toList = T at *
      go_wp2
      go_ret
      exact ⟨rfl, n, by rw [← HS.out, ← HT.out]; exact set_new _ _ _ _ _ _⟩
end Go.Proofs.Qxb6628400a
