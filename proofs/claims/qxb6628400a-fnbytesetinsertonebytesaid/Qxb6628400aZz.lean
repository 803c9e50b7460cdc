import Derived.Test.Qxb6628400aSet
import Derived.Deep.RegionHeld
import Derived.Deep.WholeRow
namespace Go.Proofs.Qxb6628400a
open Go.RowKit
theorem zero23 (w : World) : Sem.run Try.prog (zeroValue 23) w = .ok (.agg (boolsOf (fun _ => false)).toArray) w := by kernel_rfl
theorem len256 (f : Nat → Bool) : (boolsOf f).length = 256 := by simp [boolsOf]
theorem one256 (f : Nat → Bool) : ∀ v ∈ boolsOf f, v.oneCell' = true := by
  intro v hv
  simp only [boolsOf, List.mem_map] at hv
  obtain ⟨i, _, rfl⟩ := hv
  rfl
theorem info23 : (Try.prog.info? 23).map (·.size) = some 256 := by kernel_rfl
theorem range257 {w : World} {b : Nat} {f : Nat → Bool} {x : Int} (h : w.heap[b]? = some (.cells (setCells257 f x) 33)) : w.rangeAt b 0 (boolsOf f) := by
  have := World.rangeAt_of_block h 0 256
  have e : ((setCells257 f x).extract 0 (0 + 256)).toList = boolsOf f := by simp [setCells257, len256]
  rwa [e] at this

theorem cell_setCells_far (w : World) (b c o j : Nat) (vs : List Value) (h : c ≠ b) : (w.setCells b o vs).cell? ⟨c, j, none⟩ = w.cell? ⟨c, j, none⟩ :=
  World.cell?_setCells_out b vs o w ⟨c, j, none⟩ (fun e => absurd e h)
theorem keep_set {w : World} {b n : Nat} {L : List Value} {v : Value} (h : w.rangeAt (b + 1) 0 L ∧ w.cell? ⟨b + 1, 256, none⟩ = some v ∧ w.there b 0 n) :
    (w.setCells b 0 L).rangeAt (b + 1) 0 L ∧ (w.setCells b 0 L).cell? ⟨b + 1, 256, none⟩ = some v ∧ (w.setCells b 0 L).there b 0 n :=
  ⟨World.rangeAt_setCells_apart h.1 _ _ _ (Or.inl (by omega)), by rw [cell_setCells_far _ _ _ _ _ _ (by omega)]; exact h.2.1, World.there_setCells h.2.2 _ _ _⟩

theorem below_setCells {B : Nat} {W : World} {b : Nat} : ∀ {w' : World}, Below B W w' → B ≤ b → ∀ (vs : List Value) (o : Nat), Below B W (w'.setCells b o vs)
  | _, h, _, [], _ => h
  | _, h, hb, v :: vs, o => by
    rw [World.setCells]
    exact below_setCells (h.setCell (p := ⟨b, o, none⟩) hb v) hb vs (o + 1)
theorem below_drewN {B : Nat} {a w : World} (h : Below B a w) (n : Nat) : Below B a (w.drewN n) := ⟨h.os, h.tape, h.output, h.size, h.block⟩

set_option maxHeartbeats 800000 in
theorem zz_any (s : ByteArray) (hs : s.size ≤ 1048577) (w : World) :
    Calls Try.prog 6 #[.string s] w fun e w' => e = .returned (.tuple #[.agg (boolsOf (mem s.data.toList)).toArray, .int .u64 (word s.data.toList)]) ∧ Below w.heap.size w w' := by
  have hz := zero23
  go_enter Try.func6, Try.ntmps6
  go_wp2_with fail
  refine (new_any s hs _).mono ?_
  rintro e w' ⟨rfl, n, hw⟩
  have hr : w'.rangeAt (w.heap.size + 1) 0 (boolsOf (mem s.data.toList)) := by
    subst hw
    refine range257 (x := word s.data.toList) ?_
    exact heap_alloc2_new _ _ _
  have hc : w'.cell? ⟨w.heap.size + 1, 256, none⟩ = some (.int .u64 (word s.data.toList)) := by
    subst hw
    rw [World.cell?_drewN, cell_of_row _ _ 256 _ 33 (0, 0) (heap_alloc2_new _ _ _)]
    exact last257 _ _
  have ht : w'.there w.heap.size 0 256 := by
    subst hw
    intro j hj
    rw [World.cell?_drewN, World.frozen?_drewN, cell_of_row _ _ (0 + j) _ 23 (0, 0) (heap_alloc2_old _ _ _), frozen_of_row _ _ _ _ _ (heap_alloc2_old _ _ _)]
    simp [len256]; omega
  have hg : Below w.heap.size w w' := by
    subst hw
    exact below_drewN (((Below.refl _ w).alloc (Nat.le_refl _) _).alloc (by simp) _) n
  clear hw hz
  have hl := len256 (mem s.data.toList)
  have h1 := one256 (mem s.data.toList)
  have HG : Hid (Below w.heap.size w w') := hg
  clear hg
  generalize hX : word s.data.toList = X at *
  have HX : Hid (word s.data.toList = X) := hX
  clear hX
  have hsz := info23
  have hu := Try.underlying23
  go_wp2_with fail
  generalize hL : boolsOf (mem s.data.toList) = L at *
  have HL : Hid (boolsOf (mem s.data.toList) = L) := hL
  clear hL
  rw [← hl] at hsz
  go_region_held (fun w' => w'.rangeAt (w.heap.size + 1) 0 L ∧ w'.cell? ⟨w.heap.size + 1, 256, none⟩ = some (.int .u64 X) ∧ w'.there w.heap.size 0 256) (first | go_keep_ranges | (refine keep_set ?_; assumption)) (fail)
  rename_i hH
  have hr' : (w'.drew.setCells w.heap.size 0 L).rangeAt w.heap.size 0 L := World.rangeAt_setCells_same _ _ _ _ (by rw [hl]; exact (World.there_drew _ _ _ _).2 ht)
  have HR : Hid ((w'.drew.setCells w.heap.size 0 L).rangeAt w.heap.size 0 L) := hr'
  clear hr' hH hr ht hc
  go_wp2
  rw [HL.out, HX.out]
  refine bodyPost_ret (v := .tuple #[.agg L.toArray, .int .u64 X]) ?_ rfl ⟨rfl, ?_⟩
  · rw [results_cell_tmp Try.results6]
    show ((loadVar 23 ⟨w.heap.size, 0, none⟩).run Try.prog (w'.drew.setCells w.heap.size 0 L)).andThen (fun v w₂ => Result.ok (Value.tuple #[v, Value.int .u64 X]) w₂) = _
    rw [run_loadVar_mid _ _ _ 23 L _ HR.out hu rfl hsz]
    rfl
  · exact below_setCells HG.out.drew (Nat.le_refl _) _ _

theorem bytes_cut (s : ByteArray) (k : Int) (hs : s.size ≤ maxLen) (w : World) :
    Calls Try.prog 5 #[.string s, .int .i64 k] w fun e w' => ∃ b : Bool, e = .returned (.bool b) ∧ w = w' := by
  unfold maxLen at hs
  go_enter Try.func5, Try.ntmps5
  go_wp2
  all_goals (go_ret; exact ⟨_, rfl, rfl⟩)
theorem bytes_ins (s : ByteArray) (k c : Int) (hs : s.size ≤ maxLen) (w : World) :
    Calls Try.prog 8 #[.string s, .int .i64 k, .int .u8 c] w fun e w' => ∃ b : Bool, e = .returned (.bool b) ∧ w = w' := by
  unfold maxLen at hs
  go_enter Try.func8, Try.ntmps8
  go_wp2
  all_goals (go_ret; exact ⟨_, rfl, rfl⟩)

theorem ret_bool {a b : Bool} (h : a = b) : Ending.returned (.bool a) = .returned (.bool b) := by rw [h]
/-- No byte of the first k is c. -/
def NoC (s : ByteArray) (c k : Nat) : Prop := ∀ j (h : j < s.size), j < k → s[j].toNat ≠ c
theorem mem_no {s : ByteArray} {c : Nat} (h : NoC s c s.size) : mem s.data.toList c = false := by
  unfold mem
  rw [List.any_eq_false]
  intro x hx
  obtain ⟨j, hj, rfl⟩ := List.getElem_of_mem hx
  have hj' : j < s.size := by simpa using hj
  have := h j hj' hj'
  simp only [beq_iff_eq]
  exact this
theorem mem_yes {s : ByteArray} {k : Nat} (hk : k < s.size) : mem s.data.toList s[k].toNat = true := by
  unfold mem
  rw [List.any_eq_true]
  exact ⟨s[k], by show s.data[k] ∈ s.data.toList; simp, by simp⟩
theorem NoC_succ {s : ByteArray} {c k : Nat} (hk : k < s.size) (h : NoC s c k) (e : ((s[k].toNat : Int) == (c : Int)) = false) : NoC s c (k + 1) := by
  intro j hj hjk
  by_cases e' : j = k
  · subst e'
    intro x
    rw [x] at e
    simp at e
  · exact h j hj (by omega)
theorem has_any (s : ByteArray) (c : Nat) (hs : s.size ≤ 1048576) (w : World) :
    Calls Try.prog 7 #[.string s, .int .u8 c] w fun e w' => e = .returned (.bool (mem s.data.toList c)) ∧ w = w' := by
  go_enter Try.func7, Try.ntmps7
  go_wp2
  go_loop [5] (fun i => ∃ k : Nat, k ≤ s.size ∧ i = .int .i64 k ∧ NoC s c k) (fun i => s.size - (intOf i).toNat)
  case atStart => exact ⟨0, Nat.zero_le _, rfl, fun j _ h => by omega⟩
  case round =>
    obtain ⟨k, hk, rfl, hall⟩ := hrel
    by_cases hlt : k < s.size
    · have hy := mem_yes hlt
      have HY : Hid (mem s.data.toList s[k].toNat = true) := hy
      clear hy
      go_wp2
      · go_ret
        have e : ((s[k].toNat : Int) == (c : Int)) = true := ‹_›
        have e' : s[k].toNat = c := by
          have : (s[k].toNat : Int) = (c : Int) := by simpa using e
          omega
        exact ⟨ret_bool (e' ▸ HY.out).symm, rfl⟩
      · go_round
        case rel => exact ⟨k + 1, by omega, by go_num, NoC_succ hlt hall ‹_›⟩
        case measure => simp [intOf]; omega
    · have e : k = s.size := by omega
      go_wp2
      go_ret
      exact ⟨ret_bool (mem_no (e ▸ hall)).symm, rfl⟩

/-- A whole array stored into the block that was made last: as the walk meets it. -/
theorem wpList_store_new {P : Program} {ops : Array Oper} {rest : List Oper} {o : Oper} {a : Act} {w : World} {Q : Exit → Act → World → Prop} (hgd : o.guard = none) (t : TypeId) (x y : Operand) (ho : o.op = .store t x y)
    (g : Nat) (hg : g = w.heap.size) (L old : List Value) (hx : a.eval x = .pointer (some ⟨g, 0, none⟩)) (hy : a.eval y = .agg L.toArray)
    (hi : (P.info? t).map (·.size) = some L.length) (hl : old.length = L.length) (h1 : ∀ v ∈ L, v.oneCell' = true)
    (h : wpList P ops Q rest (a.put o.dst undef) (w.alloc (.cells L.toArray t))) : wpList P ops Q (o :: rest) a (w.alloc (.cells old.toArray t)) := by
  subst hg
  refine wpList_store_row hgd t x y ho w.heap.size L.toArray hx hy t old.toArray (heap_alloc_new w _) (by simpa using hi) (by simpa using hl) (all_oneCell_toArray h1) ?_
  rw [World.setRow_alloc_new]
  exact h
end Go.Proofs.Qxb6628400a
