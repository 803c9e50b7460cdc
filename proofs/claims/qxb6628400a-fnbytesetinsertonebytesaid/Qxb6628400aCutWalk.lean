import Derived.Test.Qxb6628400aZz
import Derived.Lib.Strings
namespace Go.Proofs.Qxb6628400a
open Go.RowKit
theorem info23' (f : Nat → Bool) : (Try.prog.info? 23).map (·.size) = some (boolsOf f).length := by rw [len256]; exact info23
/-- Block b holds the array of the bools f. -/
def ArrAt (w : World) (b : Nat) (f : Nat → Bool) : Prop := ∀ i, i < 256 → w.cell? ⟨b, i, none⟩ = some (.bool (f i))
theorem arr_new (w : World) (f : Nat → Bool) : ArrAt (w.alloc (.cells (boolsOf f).toArray 23)) w.heap.size f := by
  intro i hi
  rw [World.cell?_alloc_at _ _ _ _ rfl]
  simp [boolsOf, hi]
theorem arr_below {B : Nat} {w w' : World} {b : Nat} {f : Nat → Bool} (h : ArrAt w b f) (hb : b < B) (k : Below B w w') : ArrAt w' b f :=
  fun i hi => (k.cell (p := ⟨b, i, none⟩) hb).trans (h i hi)
theorem arr_alloc {w : World} {b : Nat} {f : Nat → Bool} (h : ArrAt w b f) (o : Obj) : ArrAt (w.alloc o) b f := by
  intro i hi
  rw [World.cell?_alloc_lt _ _ _ (World.block_lt_of_cell? w _ (h i hi))]
  exact h i hi
theorem arr_drewN {w : World} {b : Nat} {f : Nat → Bool} (h : ArrAt w b f) (n : Nat) : ArrAt (w.drewN n) b f := h
theorem arr_lt {w : World} {b : Nat} {f : Nat → Bool} (h : ArrAt w b f) : b < w.heap.size := World.block_lt_of_cell? w _ (h 0 (by decide))

theorem mem_cut (s : ByteArray) (k i : Nat) : mem s.data.toList i = (mem (s.extract 0 k).data.toList i || mem (s.extract k s.size).data.toList i) := by
  have h : s.data.toList = s.data.toList.take k ++ s.data.toList.drop k := (List.take_append_drop k _).symm
  rw [Lib.extract_data, Lib.extract_data, List.take_of_length_le (l := List.drop k s.data.toList) (by simp)]
  simp only [Nat.sub_zero, List.drop_zero]
  unfold mem
  rw [← List.any_append, List.take_append_drop]

theorem top_append (a b : List UInt8) : top (a ++ b) = max (top a) (top b) := by
  suffices h : ∀ (b : List UInt8) m, b.foldl (fun m c => max m c.toNat) m = max m (top b) by
    unfold top
    rw [List.foldl_append]
    exact h b _
  intro b
  induction b with
  | nil => intro m; simp [top]
  | cons c b ih =>
    intro m
    have e : top (c :: b) = max c.toNat (top b) := by
      show b.foldl _ (max 0 c.toNat) = _
      rw [ih]
      simp
    rw [List.foldl_cons, ih, e]
    omega
theorem low_byte (m : Int) : m * 72340172838076673 % 256 = m % 256 := by omega
theorem low_byte1 (m : Int) : (m * 72340172838076673 - 1) % 256 = (m - 1) % 256 := by omega
theorem words (A B T : Nat) (hA : A < 256) (hB : B < 256) (hT : T = max A B) (X Xa Xb : Int) (h : X = ((T : Int) + 1) % 256 * 72340172838076673) (ha : Xa = ((A : Int) + 1) % 256 * 72340172838076673) (hb : Xb = ((B : Int) + 1) % 256 * 72340172838076673) :
    ((Xa - 1) % 256 < (Xb - 1) % 256 → X = Xb % 256 * 72340172838076673) ∧ (¬ (Xa - 1) % 256 < (Xb - 1) % 256 → X = Xa % 256 * 72340172838076673) := by
  subst h ha hb
  rw [low_byte, low_byte, low_byte1, low_byte1]
  rw [Nat.max_def] at hT
  constructor
  · intro h
    have : T = B := by split at hT <;> omega
    rw [this]
    omega
  · intro h
    have : T = A := by split at hT <;> omega
    rw [this]
    omega
theorem word_cut (s : ByteArray) (k : Nat) :
    ((word (s.extract 0 k).data.toList - 1) % 256 < (word (s.extract k s.size).data.toList - 1) % 256 → word s.data.toList = word (s.extract k s.size).data.toList % 256 * 72340172838076673) ∧
    (¬ (word (s.extract 0 k).data.toList - 1) % 256 < (word (s.extract k s.size).data.toList - 1) % 256 → word s.data.toList = word (s.extract 0 k).data.toList % 256 * 72340172838076673) := by
  refine words (top (s.extract 0 k).data.toList) (top (s.extract k s.size).data.toList) (top s.data.toList) (top_lt _) (top_lt _) ?_ _ _ _ rfl rfl rfl
  rw [Lib.extract_data, Lib.extract_data, List.take_of_length_le (l := List.drop k s.data.toList) (by simp)]
  simp only [Nat.sub_zero, List.drop_zero]
  rw [← top_append, List.take_append_drop]

set_option maxRecDepth 100000 in
set_option maxHeartbeats 3200000 in
theorem walk_cut (s : ByteArray) (k : Nat) (hs : s.size ≤ maxLen) (hk : k ≤ s.size) (w : World) :
    Calls Try.prog 3 #[.string s, .int .i64 k] w fun e w' => e = .returned (.bool true) ∧ Below w.heap.size w w' := by
  have hz := zero23
  go_enter Try.func3, Try.ntmps3
  go_wp2_with (go_at_call 5; refine (bytes_cut s _ hs _).mono ?_; rintro e w' ⟨b, rfl, rfl⟩)
  · go_ret; exact ⟨rfl, Below.refl _ _⟩
  · go_ret; exact ⟨rfl, Below.refl _ _⟩
  have g1 : (s.size : Int) ≤ 1048576 := by assumption
  refine (zz_any s (by omega) _).mono ?_
  rintro e x1 ⟨rfl, k1⟩
  have K1 : Hid (Below w.heap.size w x1) := k1
  clear k1
  generalize hf : mem s.data.toList = f at *
  generalize hX : word s.data.toList = X at *
  have HF : Hid (mem s.data.toList = f) := hf
  have HX : Hid (word s.data.toList = X) := hX
  clear hf hX
  go_wp2_with ((with_reducible (show wpList _ _ _ (Oper.mk none (Op.store 23 _ _) _ _ _ _ :: _) _ _)); refine wpList_store_new (o := { dst := none, op := .store 23 (.tmp 5) (.tmp 36), type := _, pos := _, after := _, guard := none }) rfl 23 (.tmp 5) (.tmp 36) rfl _ rfl (boolsOf f) (boolsOf (fun _ => false)) rfl rfl (info23' _) ((len256 _).trans (len256 _).symm) (one256 _) ?_)
  refine (zz_any (s.extract 0 k) (by simp; omega) _).mono ?_
  rintro e x2 ⟨rfl, k2⟩
  have K2 : Hid (Below (x1.alloc (.cells (boolsOf f).toArray 23)).heap.size (x1.alloc (.cells (boolsOf f).toArray 23)) x2) := k2
  clear k2
  generalize hfa : mem (s.extract 0 k).data.toList = fa at *
  generalize hXa : word (s.extract 0 k).data.toList = Xa at *
  have HFA : Hid (mem (s.extract 0 k).data.toList = fa) := hfa
  have HXA : Hid (word (s.extract 0 k).data.toList = Xa) := hXa
  clear hfa hXa
  go_wp2_with ((with_reducible (show wpList _ _ _ (Oper.mk none (Op.store 23 _ _) _ _ _ _ :: _) _ _)); refine wpList_store_new (o := { dst := none, op := .store 23 (.tmp 7) (.tmp 43), type := _, pos := _, after := _, guard := none }) rfl 23 (.tmp 7) (.tmp 43) rfl _ rfl (boolsOf fa) (boolsOf (fun _ => false)) rfl rfl (info23' _) ((len256 _).trans (len256 _).symm) (one256 _) ?_)
  refine (zz_any (s.extract k s.size) (by simp; omega) _).mono ?_
  rintro e x3 ⟨rfl, k3⟩
  have K3 : Hid (Below (x2.alloc (.cells (boolsOf fa).toArray 23)).heap.size (x2.alloc (.cells (boolsOf fa).toArray 23)) x3) := k3
  clear k3
  generalize hfb : mem (s.extract k s.size).data.toList = fb at *
  generalize hXb : word (s.extract k s.size).data.toList = Xb at *
  have HFB : Hid (mem (s.extract k s.size).data.toList = fb) := hfb
  have HXB : Hid (word (s.extract k s.size).data.toList = Xb) := hXb
  clear hfb hXb
  go_wp2_with ((with_reducible (show wpList _ _ _ (Oper.mk none (Op.store 23 _ _) _ _ _ _ :: _) _ _)); refine wpList_store_new (o := { dst := none, op := .store 23 (.tmp 9) (.tmp 50), type := _, pos := _, after := _, guard := none }) rfl 23 (.tmp 9) (.tmp 50) rfl _ rfl (boolsOf fb) (boolsOf (fun _ => false)) rfl rfl (info23' _) ((len256 _).trans (len256 _).symm) (one256 _) ?_)
  -- the world, by its facts
  have a1 : ArrAt (x3.alloc (.cells (boolsOf fb).toArray 23)) x1.heap.size f := by
    refine arr_alloc (arr_below (arr_alloc (arr_below (arr_new x1 f) (by simp) K2.out) _) ?_ K3.out) _
    have := K2.out.size
    simp at this ⊢
    omega
  have a2 : ArrAt (x3.alloc (.cells (boolsOf fb).toArray 23)) x2.heap.size fa :=
    arr_alloc (arr_below (arr_new x2 fa) (by simp) K3.out) _
  have a3 : ArrAt (x3.alloc (.cells (boolsOf fb).toArray 23)) x3.heap.size fb := arr_new x3 fb
  have hb : Below w.heap.size w (x3.alloc (.cells (boolsOf fb).toArray 23)) := by
    have s1 := K1.out.size
    have s2 := K2.out.size
    have s3 := K3.out.size
    simp at s2 s3
    exact ((((K1.out.alloc s1 _).trans (K2.out.mono (by simp; omega))).alloc (by omega) _).trans (K3.out.mono (by simp; omega))).alloc (by omega) _
  generalize x3.alloc (.cells (boolsOf fb).toArray 23) = W at *
  generalize x1.heap.size = b1 at *
  generalize x2.heap.size = b2 at *
  generalize x3.heap.size = b3 at *
  have A1 : Hid (ArrAt W b1 f) := a1
  have A2 : Hid (ArrAt W b2 fa) := a2
  have A3 : Hid (ArrAt W b3 fb) := a3
  have HB : Hid (Below w.heap.size w W) := hb
  have HU : Hid (∀ i, f i = (fa i || fb i)) := by
    intro i
    rw [← HF.out, ← HFA.out, ← HFB.out]
    exact mem_cut s k i
  clear a1 a2 a3 hb K1 K2 K3 hz hs
  go_loopw [11] (fun i w' => ∃ c n : Nat, c ≤ 256 ∧ i = .int .i64 c ∧ w' = W.drewN n) (fun i _ => 256 - (intOf i).toNat)
  case atStart => exact ⟨0, 0, Nat.zero_le _, rfl, rfl⟩
  case round =>
    obtain ⟨c, n, hc, rfl, rfl⟩ := hrel
    by_cases hlt : c < 256
    · have e1 := A1.out c hlt
      have e2 := A2.out c hlt
      have e3 := A3.out c hlt
      have hu := HU.out c
      cases ha : fa c
      · rw [ha] at e2 hu
        rw [Bool.false_or] at hu
        rw [hu] at e1
        clear hu
        generalize fb c = y at *
        clear ha
        go_wp2
        go_quiet (fail)
        go_wp2
        go_roundw
        case rel => exact ⟨c + 1, n + nq, by omega, by go_num, rfl⟩
        case measure => simp [intOf]; omega
      · rw [ha] at e2 hu
        rw [Bool.true_or] at hu
        rw [hu] at e1
        clear hu ha e3
        go_wp2
        go_quiet (fail)
        go_wp2
        go_roundw
        case rel => exact ⟨c + 1, n + nq, by omega, by go_num, rfl⟩
        case measure => simp [intOf]; omega
    · have hw := word_cut s k
      rw [HX.out, HXA.out, HXB.out] at hw
      clear A2 A3 HU HXA HXB HFA HFB
      have hT := top_lt s.data.toList
      by_cases hab : (Xa - 1) % 256 < (Xb - 1) % 256
      · have hX : (X != Xb % 256 * 72340172838076673) = false := by simp [hw.1 hab]
        clear hw
        go_wp2
        go_loop [15, 16] (fun t i => ∃ j : Nat, j ≤ s.size ∧ i = .int .i64 j ∧ t = .int .u8 (top (s.data.toList.take j))) (fun _ i => s.size - (intOf i).toNat)
        case atStart => exact ⟨0, Nat.zero_le _, rfl, rfl⟩
        case round =>
          obtain ⟨j, hj, rfl, rfl⟩ := hrel
          by_cases hlt : j < s.size
          · have hc8 : s[j].toNat < 256 := s[j].toNat_lt
            have e1 := A1.out s[j].toNat hc8
            have hm := mem_yes hlt
            rw [HF.out] at hm
            rw [hm] at e1
            clear hm
            have HT : Hid (top (s.data.toList.take (j + 1)) = max (top (s.data.toList.take j)) s[j].toNat) := by
              rw [take_snoc s j hlt, top_snoc]; exact rfl
            have hTj := top_lt (s.data.toList.take j)
            generalize top (s.data.toList.take j) = T at *
            go_wp2
            · have hlt2 : T < s[j].toNat := ‹_›
              go_round
              case rel => exact ⟨j + 1, by omega, by go_num, int_u8 (by rw [HT.out]; omega)⟩
              case measure => simp [intOf]; omega
            · have hlt2 : ¬ T < s[j].toNat := ‹_›
              go_round
              case rel => exact ⟨j + 1, by omega, by go_num, int_u8 (by rw [HT.out]; omega)⟩
              case measure => simp [intOf]; omega
          · have et : s.data.toList.take j = s.data.toList := List.take_of_length_le (by simp; omega)
            rw [et]
            clear et
            have hX2 : (X != ((top s.data.toList : Int) + 1) % 256 * 72340172838076673) = false := by rw [← HX.out]; simp [word]
            clear HX
            generalize top s.data.toList = T at *
            go_wp2
            go_loop [17] (fun i => ∃ c : Nat, c ≤ 256 ∧ i = .int .i64 c) (fun i => 256 - (intOf i).toNat)
            case atStart => exact ⟨0, Nat.zero_le _, rfl⟩
            case round =>
              obtain ⟨c, hc, rfl⟩ := hrel
              by_cases hlt : c < 256
              · have e1 := A1.out c hlt
                have hm : mem s.data.toList c = f c := by rw [HF.out]
                have HM : Hid (mem s.data.toList c = f c) := hm
                clear hm
                cases hf : f c
                · rw [hf] at e1
                  clear hf
                  go_wp2
                  go_round
                  case rel => exact ⟨c + 1, by omega, by go_num⟩
                  case measure => simp [intOf]; omega
                · rw [hf] at e1
                  have HM' : Hid (mem s.data.toList c = true) := HM.out.trans hf
                  clear hf
                  go_wp2_with fail
                  refine (has_any s c (by omega) _).mono ?_
                  rintro e w' ⟨rfl, rfl⟩
                  rw [HM'.out]
                  go_wp2_with fail
                  go_round
                  case rel => exact ⟨c + 1, by omega, by go_num⟩
                  case measure => simp [intOf]; omega
              · go_wp2
                go_ret
                exact ⟨rfl, below_drewN HB.out n⟩
      · have hX : (X != Xa % 256 * 72340172838076673) = false := by simp [hw.2 hab]
        clear hw
        go_wp2
        go_loop [15, 16] (fun t i => ∃ j : Nat, j ≤ s.size ∧ i = .int .i64 j ∧ t = .int .u8 (top (s.data.toList.take j))) (fun _ i => s.size - (intOf i).toNat)
        case atStart => exact ⟨0, Nat.zero_le _, rfl, rfl⟩
        case round =>
          obtain ⟨j, hj, rfl, rfl⟩ := hrel
          by_cases hlt : j < s.size
          · have hc8 : s[j].toNat < 256 := s[j].toNat_lt
            have e1 := A1.out s[j].toNat hc8
            have hm := mem_yes hlt
            rw [HF.out] at hm
            rw [hm] at e1
            clear hm
            have HT : Hid (top (s.data.toList.take (j + 1)) = max (top (s.data.toList.take j)) s[j].toNat) := by
              rw [take_snoc s j hlt, top_snoc]; exact rfl
            have hTj := top_lt (s.data.toList.take j)
            generalize top (s.data.toList.take j) = T at *
            go_wp2
            · have hlt2 : T < s[j].toNat := ‹_›
              go_round
              case rel => exact ⟨j + 1, by omega, by go_num, int_u8 (by rw [HT.out]; omega)⟩
              case measure => simp [intOf]; omega
            · have hlt2 : ¬ T < s[j].toNat := ‹_›
              go_round
              case rel => exact ⟨j + 1, by omega, by go_num, int_u8 (by rw [HT.out]; omega)⟩
              case measure => simp [intOf]; omega
          · have et : s.data.toList.take j = s.data.toList := List.take_of_length_le (by simp; omega)
            rw [et]
            clear et
            have hX2 : (X != ((top s.data.toList : Int) + 1) % 256 * 72340172838076673) = false := by rw [← HX.out]; simp [word]
            clear HX
            generalize top s.data.toList = T at *
            go_wp2
            go_loop [17] (fun i => ∃ c : Nat, c ≤ 256 ∧ i = .int .i64 c) (fun i => 256 - (intOf i).toNat)
            case atStart => exact ⟨0, Nat.zero_le _, rfl⟩
            case round =>
              obtain ⟨c, hc, rfl⟩ := hrel
              by_cases hlt : c < 256
              · have e1 := A1.out c hlt
                have hm : mem s.data.toList c = f c := by rw [HF.out]
                have HM : Hid (mem s.data.toList c = f c) := hm
                clear hm
                cases hf : f c
                · rw [hf] at e1
                  clear hf
                  go_wp2
                  go_round
                  case rel => exact ⟨c + 1, by omega, by go_num⟩
                  case measure => simp [intOf]; omega
                · rw [hf] at e1
                  have HM' : Hid (mem s.data.toList c = true) := HM.out.trans hf
                  clear hf
                  go_wp2_with fail
                  refine (has_any s c (by omega) _).mono ?_
                  rintro e w' ⟨rfl, rfl⟩
                  rw [HM'.out]
                  go_wp2_with fail
                  go_round
                  case rel => exact ⟨c + 1, by omega, by go_num⟩
                  case measure => simp [intOf]; omega
              · go_wp2
                go_ret
                exact ⟨rfl, below_drewN HB.out n⟩

theorem walk_out (s : ByteArray) (k : Int) (hs : s.size ≤ maxLen) (hk : k < 0 ∨ (s.size : Int) < k) (w : World) :
    Calls Try.prog 3 #[.string s, .int .i64 k] w fun e w' => e = .returned (.bool true) ∧ Below w.heap.size w w' := by
  rcases hk with h | h
  · go_enter Try.func3, Try.ntmps3
    go_wp2_with (go_at_call 5; refine (bytes_cut s _ hs _).mono ?_; rintro e w' ⟨b, rfl, rfl⟩)
    all_goals (go_ret; exact ⟨rfl, Below.refl _ _⟩)
  · have h0 : ¬ k < 0 := by omega
    go_enter Try.func3, Try.ntmps3
    go_wp2_with (go_at_call 5; refine (bytes_cut s _ hs _).mono ?_; rintro e w' ⟨b, rfl, rfl⟩)
    all_goals (go_ret; exact ⟨rfl, Below.refl _ _⟩)

theorem walk_cut_any (s : ByteArray) (k : Int) (hs : s.size ≤ maxLen) (w : World) :
    Calls Try.prog 3 #[.string s, .int .i64 k] w fun e w' => e = .returned (.bool true) ∧ Below w.heap.size w w' := by
  by_cases hk : k < 0 ∨ (s.size : Int) < k
  · exact walk_out s k hs hk w
  · obtain ⟨n, rfl⟩ := Int.eq_ofNat_of_zero_le (show 0 ≤ k by omega)
    exact walk_cut s n hs (by omega) w
end Go.Proofs.Qxb6628400a
