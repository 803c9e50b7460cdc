import Derived.Test.Qxb6628400aBytes
namespace Go.Proofs.Qxb6628400a
open Go.RowKit
/-- The first j bytes lie below 128. -/
def Low (s : ByteArray) (j : Nat) : Prop := ∀ i (h : i < s.size), i < j → s[i].toNat < 128
theorem Low_succ {s : ByteArray} {j : Nat} (hj : j < s.size) (h : Low s j) (e : ¬ 128 ≤ (s[j].toNat : Int)) : Low s (j + 1) := by
  intro i hi hij
  by_cases c : i = j
  · subst c; omega
  · exact h i hi (by omega)
theorem one_cell (w : World) (v : Value) : ∀ (j : Nat) (u : Value), [v][j]? = some u → (w.alloc (.cells #[v] 5)).cell? ((⟨w.heap.size, 0, none⟩ : Addr).add j) = some u := by
  intro j u hj
  match j, hj with
  | 0, hj =>
    simp at hj
    subst hj
    rw [Addr.add_mid, World.cell?_alloc_at _ _ _ _ rfl]
    rfl
theorem one_oneCell (n : Nat) : ∀ u ∈ [Value.int .u8 n], u.oneCell' = true := by
  intro u hu
  simp at hu
  subst hu
  rfl
/-- The bytes so far: the first j, the one put in, those from j to m. -/
def insL (l : List UInt8) (j m : Nat) (c : UInt8) : List UInt8 := l.take j ++ [c] ++ (l.take m).drop j
theorem insL_start (l : List UInt8) (j : Nat) (c : UInt8) : insL l j j c = l.take j ++ [c] := by
  unfold insL
  rw [List.drop_of_length_le (by simp; omega)]
  simp
theorem insL_step (s : ByteArray) (j m : Nat) (c : UInt8) (h : j ≤ m) (hm : m < s.size) : insL s.data.toList j (m + 1) c = insL s.data.toList j m c ++ [s[m]] := by
  unfold insL
  rw [take_snoc s m hm, List.drop_append_of_le_length (by simp; omega)]
  simp only [List.append_assoc]
theorem insL_full (s : ByteArray) (j : Nat) (c : UInt8) : insL s.data.toList j s.size c = s.data.toList.take j ++ [c] ++ s.data.toList.drop j := by
  unfold insL
  rw [List.take_of_length_le (i := s.size) (by simp)]
theorem mem_ins (s : ByteArray) (j : Nat) (c : UInt8) : ∀ x, mem (insL s.data.toList j s.size c) x = (mem s.data.toList x || c.toNat == x) := by
  intro x
  rw [insL_full]
  have h : mem s.data.toList x = (mem (s.data.toList.take j) x || mem (s.data.toList.drop j) x) := by
    unfold mem
    rw [← List.any_append, List.take_append_drop]
  rw [h]
  unfold mem
  simp only [List.any_append, List.any_cons, List.any_nil, Bool.or_false]
  cases List.any (List.take j s.data.toList) (fun c => c.toNat == x) <;> cases List.any (List.drop j s.data.toList) (fun c => c.toNat == x) <;> cases (c.toNat == x) <;> rfl
theorem top_ins (s : ByteArray) (j : Nat) (c : UInt8) : top (insL s.data.toList j s.size c) = max (top s.data.toList) c.toNat := by
  rw [insL_full, top_append, top_append]
  have h : top s.data.toList = max (top (s.data.toList.take j)) (top (s.data.toList.drop j)) := by rw [← top_append, List.take_append_drop]
  have h1 : top [c] = c.toNat := by simp [top]
  rw [h, h1]
  omega
theorem le_top (l : List UInt8) : ∀ x, mem l x = true → x ≤ top l := by
  induction l with
  | nil => intro x h; simp [mem] at h
  | cons c l ih =>
    intro x h
    have e : top (c :: l) = max c.toNat (top l) := by
      have := top_append [c] l
      simpa [top] using this
    rw [e]
    simp only [mem, List.any_cons, Bool.or_eq_true, beq_iff_eq] at h
    rcases h with h | h
    · omega
    · have := ih x h
      omega
theorem low_top (s : ByteArray) (h : Low s s.size) : top s.data.toList < 128 := by
  suffices g : ∀ k, k ≤ s.size → top (s.data.toList.take k) < 128 by
    have := g s.size (Nat.le_refl _)
    rwa [List.take_of_length_le (by simp)] at this
  intro k
  induction k with
  | zero => intro _; simp [top]
  | succ k ih =>
    intro hk
    rw [take_snoc s k (by omega), top_snoc]
    have := ih (by omega)
    have := h k (by omega) (by omega)
    omega
/-- What the two words are, below 128. -/
theorem word_ins (s : ByteArray) (j : Nat) (c : UInt8) (h : Low s s.size) (hc : c.toNat < 128) :
    ∃ T1 T2 : Nat, T1 < 128 ∧ T2 < 128 ∧ T2 = max T1 c.toNat ∧ word s.data.toList = ((T1 : Int) + 1) * 72340172838076673 ∧ word (insL s.data.toList j s.size c) = ((T2 : Int) + 1) * 72340172838076673 ∧ T2 = top (insL s.data.toList j s.size c) := by
  have h1 := low_top s h
  have h2 := top_ins s j c
  refine ⟨top s.data.toList, top (insL s.data.toList j s.size c), h1, by omega, h2, ?_, ?_, rfl⟩
  · unfold word
    rw [Int.emod_eq_of_lt (by omega) (by omega)]
  · unfold word
    rw [Int.emod_eq_of_lt (by omega) (by omega)]
set_option maxRecDepth 100000 in
set_option maxHeartbeats 3200000 in
theorem walk_ins (s : ByteArray) (k : Nat) (ch : UInt8) (hs : s.size ≤ maxLen) (hk : k ≤ s.size) (hc : ch.toNat < 128) (w : World) :
    Calls Try.prog 4 #[.string s, .int .i64 k, .int .u8 ch.toNat] w fun e w' => e = .returned (.bool true) ∧ Below w.heap.size w w' := by
  have hz := zero23
  obtain ⟨i0, hi, hz0, hz1, hz2⟩ := info_parts info5
  go_enter Try.func4, Try.ntmps4
  go_wp2_with (go_at_call 8; refine (bytes_ins s _ _ hs _).mono ?_; rintro e w' ⟨b, rfl, rfl⟩)
  · go_ret; exact ⟨rfl, Below.refl _ _⟩
  · go_ret; exact ⟨rfl, Below.refl _ _⟩
  have g1 : (s.size : Int) ≤ 1048576 := by assumption
  go_loop [7] (fun i => ∃ j : Nat, j ≤ s.size ∧ i = .int .i64 j ∧ Low s j) (fun i => s.size - (intOf i).toNat)
  case atStart => exact ⟨0, Nat.zero_le _, rfl, fun i _ h => by omega⟩
  case round =>
    obtain ⟨j, hj, rfl, hlow⟩ := hrel
    by_cases hlt : j < s.size
    · go_wp2
      · go_ret; exact ⟨rfl, Below.refl _ _⟩
      · go_round
        case rel => exact ⟨j + 1, by omega, by go_num, Low_succ hlt hlow (by omega)⟩
        case measure => simp [intOf]; omega
    · have HLow : Hid (Low s s.size) := by
        have : j = s.size := by omega
        exact this ▸ hlow
      clear hlow
      go_wp2_with (at_make; refine wpList_make_own _ rfl _ _ 29 rfl w.heap.size 5 i0 (.int .u8 0) 1 Try.underlying29 hi hz0 hz1 _ _ _ (s.size + 1) rfl rfl (by omega) (by rw [hz2]; omega) (by unfold maxLen; omega) (Nat.le_refl _) ?_)
      intro w1 hown hgrow
      go_wp2_with fail
      have hb0 : Below w.heap.size w w1 := (Below.refl _ _).grown hgrow (Nat.le_refl _) (fun k hk => by cases hk)
      have hg0 : w.heap.size < w1.heap.size := (hown.lt w.heap.size rfl).2
      clear hgrow hz0
      generalize hG : w.heap.size = B at *
      go_loopw [8, 9] (fun v i wr => ∃ j : Nat, j ≤ k ∧ i = .int .i64 j ∧ v = .slice (some ⟨B, 0, none⟩) j (s.size + 1) ∧ wr.ownsRow B 5 1 (.slice (some ⟨B, 0, none⟩) j (s.size + 1)) j (bytesV (s.data.toList.take j)) ∧ Below B w wr) (fun _ i _ => k - (intOf i).toNat)
      case atStart => exact ⟨0, Nat.zero_le _, rfl, rfl, hown, hb0⟩
      case round =>
        clear hown hb0 hg0
        obtain ⟨j, hj, rfl, rfl, hown, hb⟩ := hrel
        by_cases hlt : j < k
        · have hlt' : j < s.size := by omega
          have HO : Hid (wr.ownsRow B 5 1 (.slice (some ⟨B, 0, none⟩) j (s.size + 1)) j (bytesV (s.data.toList.take j))) := hown
          have HB : Hid (Below B w wr) := hb
          clear hown hb
          go_wp2_with (at_builtin; refine wpList_append_fits _ rfl _ _ 29 rfl B 5 i0 1 Try.underlying29 hi hz1 B j (s.size + 1) _ rfl (HO.out.alloc _) ⟨wr.heap.size, 0, none⟩ 1 1 [.int .u8 s[j].toNat] rfl rfl (one_cell _ _) (one_oneCell _) (by omega) ?_)
          intro w2 hown2 hgrow2
          have hb2 : Below B w w2 := (HB.out.alloc (Nat.le_trans (by omega) HB.out.size) _).grown hgrow2 (by have := HB.out.size; simp; omega) (fun k hk => by cases hk; exact Nat.le_refl _)
          have HO2 : Hid (w2.ownsRow B 5 1 (.slice (some ⟨B, 0, none⟩) (j + 1) (s.size + 1)) (j + 1) (bytesV (s.data.toList.take (j + 1)))) := by
            rw [take_snoc s j hlt', bytesV_snoc]; exact hown2
          have HB2 : Hid (Below B w w2) := hb2
          clear HO HB hown2 hgrow2 hb2
          go_wp2_with fail
          go_roundw
          case rel => exact ⟨j + 1, by omega, by go_num, rfl, HO2.out, HB2.out⟩
          case measure => simp [intOf]; omega
        · obtain rfl : j = k := by omega
          have HO : Hid (wr.ownsRow B 5 1 (.slice (some ⟨B, 0, none⟩) j (s.size + 1)) j (bytesV (s.data.toList.take j))) := hown
          have HB : Hid (Below B w wr) := hb
          clear hown hb
          go_wp2_with (at_builtin; refine wpList_append_fits _ rfl _ _ 29 rfl B 5 i0 1 Try.underlying29 hi hz1 B j (s.size + 1) _ rfl (HO.out.alloc _) ⟨wr.heap.size, 0, none⟩ 1 1 [.int .u8 ch.toNat] rfl rfl (one_cell _ _) (one_oneCell _) (by omega) ?_)
          intro w2 hown2 hgrow2
          have hb2 : Below B w w2 := (HB.out.alloc (Nat.le_trans (by omega) HB.out.size) _).grown hgrow2 (by have := HB.out.size; simp; omega) (fun k hk => by cases hk; exact Nat.le_refl _)
          rw [← bytesV_snoc] at hown2
          clear HO HB hgrow2
          go_wp2_with fail
          go_loopw [8, 10] (fun v i wr => ∃ m : Nat, j ≤ m ∧ m ≤ s.size ∧ i = .int .i64 m ∧ v = .slice (some ⟨B, 0, none⟩) (m + 1) (s.size + 1) ∧ wr.ownsRow B 5 1 (.slice (some ⟨B, 0, none⟩) (m + 1) (s.size + 1)) (m + 1) (bytesV (insL s.data.toList j m ch)) ∧ Below B w wr) (fun _ i _ => s.size - (intOf i).toNat)
          case atStart => exact ⟨j, Nat.le_refl _, hk, rfl, rfl, by rw [insL_start]; exact hown2, hb2⟩
          case round =>
            clear hown2 hb2
            obtain ⟨m, hjm, hm, rfl, rfl, hown, hb⟩ := hrel
            by_cases hlt : m < s.size
            · have HO : Hid (wr.ownsRow B 5 1 (.slice (some ⟨B, 0, none⟩) (m + 1) (s.size + 1)) (m + 1) (bytesV (insL s.data.toList j m ch))) := hown
              have HB : Hid (Below B w wr) := hb
              clear hown hb
              go_wp2_with (at_builtin; refine wpList_append_fits _ rfl _ _ 29 rfl B 5 i0 1 Try.underlying29 hi hz1 B (m + 1) (s.size + 1) _ rfl (HO.out.alloc _) ⟨wr.heap.size, 0, none⟩ 1 1 [.int .u8 s[m].toNat] rfl rfl (one_cell _ _) (one_oneCell _) (by omega) ?_)
              intro w2 hown2 hgrow2
              have hb2 : Below B w w2 := (HB.out.alloc (Nat.le_trans (by omega) HB.out.size) _).grown hgrow2 (by have := HB.out.size; simp; omega) (fun k hk => by cases hk; exact Nat.le_refl _)
              have HO2 : Hid (w2.ownsRow B 5 1 (.slice (some ⟨B, 0, none⟩) (m + 1 + 1) (s.size + 1)) (m + 1 + 1) (bytesV (insL s.data.toList j (m + 1) ch))) := by
                rw [insL_step s j m ch hjm hlt, bytesV_snoc]; exact hown2
              have HB2 : Hid (Below B w w2) := hb2
              clear HO HB hown2 hgrow2 hb2
              go_wp2_with fail
              go_roundw
              case rel => exact ⟨m + 1, by omega, by omega, by go_num, rfl, HO2.out, HB2.out⟩
              case measure => simp [intOf]; omega
            · obtain rfl : m = s.size := by omega
              have HO : Hid (wr.ownsRow B 5 1 (.slice (some ⟨B, 0, none⟩) (s.size + 1) (s.size + 1)) (s.size + 1) (bytesV (insL s.data.toList j s.size ch))) := hown
              have HB : Hid (Below B w wr) := hb
              clear hown hb
              go_wp2_with ((with_reducible (show wpList _ _ _ (Oper.mk (some 81) (Op.convert 29 9 _) _ _ _ _ :: _) _ _)); refine wpList_bytes_string rfl 29 9 (.tmp 80) rfl 5 Try.underlying29 Try.underlying5 Try.underlying9 B B (s.size + 1) (s.size + 1) _ rfl HO.out ?_)
              have hzt : (⟨(insL s.data.toList j s.size ch).toArray⟩ : ByteArray).size = s.size + 1 := by
                have := HO.out.1
                rw [bytesV_length, Nat.mul_one] at this
                show (insL s.data.toList j s.size ch).toArray.size = _
                rw [List.size_toArray]
                exact this
              have HF2 := mem_ins s j ch
              have HX2 := word_ins s j ch HLow.out hc
              have HMT := le_top (insL s.data.toList j s.size ch)
              generalize hTT : (⟨(insL s.data.toList j s.size ch).toArray⟩ : ByteArray) = t at *
              have htl : insL s.data.toList j s.size ch = t.data.toList := by rw [← hTT]
              rw [htl] at HF2 HX2 HMT
              clear hTT HO HLow htl
              refine (zz_any s (by omega) _).mono ?_
              rintro e x1 ⟨rfl, k1⟩
              have K1 : Hid (Below wr.heap.size wr x1) := k1
              clear k1
              generalize mem s.data.toList = f1 at *
              generalize word s.data.toList = X1 at *
              have HF2' : Hid (∀ x, mem t.data.toList x = (f1 x || ch.toNat == x)) := HF2
              have HX2' : Hid _ := HX2
              have HMT' : Hid _ := HMT
              clear HF2 HX2 HMT
              go_wp2_with ((with_reducible (show wpList _ _ _ (Oper.mk none (Op.store 23 _ _) _ _ _ _ :: _) _ _)); refine wpList_store_new (o := { dst := none, op := .store 23 (.tmp 12) (.tmp 85), type := _, pos := _, after := _, guard := none }) rfl 23 (.tmp 12) (.tmp 85) rfl _ rfl (boolsOf f1) (boolsOf (fun _ => false)) rfl rfl (info23' _) ((len256 _).trans (len256 _).symm) (one256 _) ?_)
              refine (zz_any t (by omega) _).mono ?_
              rintro e x2 ⟨rfl, k2⟩
              have K2 : Hid (Below (x1.alloc (.cells (boolsOf f1).toArray 23)).heap.size (x1.alloc (.cells (boolsOf f1).toArray 23)) x2) := k2
              clear k2
              generalize mem t.data.toList = f2 at *
              generalize word t.data.toList = X2 at *
              go_wp2_with ((with_reducible (show wpList _ _ _ (Oper.mk none (Op.store 23 _ _) _ _ _ _ :: _) _ _)); refine wpList_store_new (o := { dst := none, op := .store 23 (.tmp 14) (.tmp 90), type := _, pos := _, after := _, guard := none }) rfl 23 (.tmp 14) (.tmp 90) rfl _ rfl (boolsOf f2) (boolsOf (fun _ => false)) rfl rfl (info23' _) ((len256 _).trans (len256 _).symm) (one256 _) ?_)
              have a1 : ArrAt (x2.alloc (.cells (boolsOf f2).toArray 23)) x1.heap.size f1 := arr_alloc (arr_below (arr_new x1 f1) (by simp) K2.out) _
              have a2 : ArrAt (x2.alloc (.cells (boolsOf f2).toArray 23)) x2.heap.size f2 := arr_new x2 f2
              have hbw : Below B w (x2.alloc (.cells (boolsOf f2).toArray 23)) := by
                have s0 := HB.out.size
                have s1 := K1.out.size
                have s2 := K2.out.size
                simp at s2
                exact (((HB.out.trans (K1.out.mono (by omega))).alloc (by omega) _).trans (K2.out.mono (by simp; omega))).alloc (by omega) _
              generalize x2.alloc (.cells (boolsOf f2).toArray 23) = W at *
              generalize x1.heap.size = b1 at *
              generalize x2.heap.size = b2 at *
              have A1 : Hid (ArrAt W b1 f1) := a1
              have A2 : Hid (ArrAt W b2 f2) := a2
              have HBW : Hid (Below B w W) := hbw
              clear a1 a2 hbw K1 K2 hz HB hs
              go_loopw [16] (fun i w' => ∃ x n : Nat, x ≤ 256 ∧ i = .int .i64 x ∧ w' = W.drewN n) (fun i _ => 256 - (intOf i).toNat)
              case atStart => exact ⟨0, 0, Nat.zero_le _, rfl, rfl⟩
              case round =>
                obtain ⟨x, n, hx, rfl, rfl⟩ := hrel
                by_cases hlt : x < 256
                · have e1 := A1.out x hlt
                  have e2 := A2.out x hlt
                  have hu := HF2'.out x
                  cases ha : f1 x
                  · rw [ha] at e1 hu
                    rw [Bool.false_or] at hu
                    rw [hu] at e2
                    clear hu ha
                    by_cases hcx : ch.toNat = x
                    · have q1 : (ch.toNat == x) = true := by simpa using hcx
                      have q2 : ((x : Int) == (ch.toNat : Int)) = true := by rw [beq_iff_eq]; omega
                      rw [q1] at e2
                      clear q1 hcx
                      go_wp2
                      go_quiet (fail)
                      go_wp2
                      go_roundw
                      case rel => exact ⟨x + 1, n + nq, by omega, by go_num, rfl⟩
                      case measure => simp [intOf]; omega
                    · have q1 : (ch.toNat == x) = false := by simpa using hcx
                      have q2 : ((x : Int) == (ch.toNat : Int)) = false := by rw [beq_eq_false_iff_ne]; omega
                      rw [q1] at e2
                      clear q1 hcx
                      go_wp2
                      go_quiet (fail)
                      go_wp2
                      go_roundw
                      case rel => exact ⟨x + 1, n + nq, by omega, by go_num, rfl⟩
                      case measure => simp [intOf]; omega
                  · rw [ha] at e1 hu
                    rw [Bool.true_or] at hu
                    rw [hu] at e2
                    clear hu ha
                    go_wp2
                    go_quiet (fail)
                    go_wp2
                    go_roundw
                    case rel => exact ⟨x + 1, n + nq, by omega, by go_num, rfl⟩
                    case measure => simp [intOf]; omega
                · obtain ⟨T1, T2, t1, t2, tm, ex1, ex2, et2⟩ := HX2'.out
                  have e3 : X2 % 256 = (T2 : Int) + 1 := by rw [ex2, low_byte, Int.emod_eq_of_lt (by omega) (by omega)]
                  have r1 : (X2 != ((T2 : Int) + 1) * 72340172838076673) = false := by
                    rw [bne_eq_false_iff_eq, ex2]
                  have r2 : decide ((T2 : Int) + 1 ≤ (ch.toNat : Int)) = false := by
                    rw [decide_eq_false_iff_not]; omega
                  have r3 : (T2 : Int) + 1 ≤ 128 := by omega
                  have R4 : Hid (∀ x : Nat, f2 x = true → (x : Int) < (T2 : Int) + 1) := by
                    intro x hx
                    have := HMT'.out x hx
                    rw [et2]
                    omega
                  have r5 : (ch.toNat + 1) * 72340172838076673 < X1 → X2 = X1 := by
                    intro h
                    rw [ex1] at h
                    have : T1 = T2 := by omega
                    rw [ex1, ex2, this]
                  have r6 : ¬ (ch.toNat + 1) * 72340172838076673 < X1 → X2 = ((ch.toNat : Int) + 1) * 72340172838076673 := by
                    intro h
                    rw [ex1] at h
                    have : T2 = ch.toNat := by omega
                    rw [ex2, this]
                  clear ex1 ex2 et2 tm t1 HX2' HMT' HF2' A1
                  by_cases hgt : ((ch.toNat : Int) + 1) * 72340172838076673 < X1
                  · have r7 : (X2 != X1) = false := by simp [r5 hgt]
                    clear r5 r6
                    go_wp2
                    go_loop [19] (fun i => ∃ x : Nat, x ≤ 256 ∧ i = .int .i64 x) (fun i => 256 - (intOf i).toNat)
                    case atStart => exact ⟨0, Nat.zero_le _, rfl⟩
                    case round =>
                      obtain ⟨x, hx, rfl⟩ := hrel
                      by_cases hlt : x < 256
                      · have e2 := A2.out x hlt
                        cases ha : f2 x
                        · rw [ha] at e2
                          clear ha
                          go_wp2
                          go_round
                          case rel => exact ⟨x + 1, by omega, by go_num⟩
                          case measure => simp [intOf]; omega
                        · rw [ha] at e2
                          have hxl := R4.out x ha
                          clear ha
                          go_wp2
                          go_round
                          case rel => exact ⟨x + 1, by omega, by go_num⟩
                          case measure => simp [intOf]; omega
                      · go_wp2
                        go_ret
                        exact ⟨rfl, by first | exact below_drewN HBW.out n | (rw [hG]; exact below_drewN HBW.out n)⟩
                  · have r7 : (X2 != ((ch.toNat : Int) + 1) * 72340172838076673) = false := by simp [r6 hgt]
                    clear r5 r6
                    go_wp2
                    go_loop [19] (fun i => ∃ x : Nat, x ≤ 256 ∧ i = .int .i64 x) (fun i => 256 - (intOf i).toNat)
                    case atStart => exact ⟨0, Nat.zero_le _, rfl⟩
                    case round =>
                      obtain ⟨x, hx, rfl⟩ := hrel
                      by_cases hlt : x < 256
                      · have e2 := A2.out x hlt
                        cases ha : f2 x
                        · rw [ha] at e2
                          clear ha
                          go_wp2
                          go_round
                          case rel => exact ⟨x + 1, by omega, by go_num⟩
                          case measure => simp [intOf]; omega
                        · rw [ha] at e2
                          have hxl := R4.out x ha
                          clear ha
                          go_wp2
                          go_round
                          case rel => exact ⟨x + 1, by omega, by go_num⟩
                          case measure => simp [intOf]; omega
                      · go_wp2
                        go_ret
                        exact ⟨rfl, by first | exact below_drewN HBW.out n | (rw [hG]; exact below_drewN HBW.out n)⟩

theorem walk_ins_out (s : ByteArray) (k c : Int) (hs : s.size ≤ maxLen) (hk : k < 0 ∨ (s.size : Int) < k) (w : World) :
    Calls Try.prog 4 #[.string s, .int .i64 k, .int .u8 c] w fun e w' => e = .returned (.bool true) ∧ Below w.heap.size w w' := by
  rcases hk with h | h
  · go_enter Try.func4, Try.ntmps4
    go_wp2_with (go_at_call 8; refine (bytes_ins s _ _ hs _).mono ?_; rintro e w' ⟨b, rfl, rfl⟩)
    all_goals (go_ret; exact ⟨rfl, Below.refl _ _⟩)
  · have h0 : ¬ k < 0 := by omega
    go_enter Try.func4, Try.ntmps4
    go_wp2_with (go_at_call 8; refine (bytes_ins s _ _ hs _).mono ?_; rintro e w' ⟨b, rfl, rfl⟩)
    all_goals (go_ret; exact ⟨rfl, Below.refl _ _⟩)
theorem walk_ins_high (s : ByteArray) (k : Nat) (c : Int) (hs : s.size ≤ maxLen) (hk : k ≤ s.size) (hc : 128 ≤ c) (w : World) :
    Calls Try.prog 4 #[.string s, .int .i64 k, .int .u8 c] w fun e w' => e = .returned (.bool true) ∧ Below w.heap.size w w' := by
  go_enter Try.func4, Try.ntmps4
  go_wp2_with (go_at_call 8; refine (bytes_ins s _ _ hs _).mono ?_; rintro e w' ⟨b, rfl, rfl⟩)
  all_goals (go_ret; exact ⟨rfl, Below.refl _ _⟩)

theorem walk_ins_any (s : ByteArray) (k c : Int) (hs : s.size ≤ maxLen) (h0 : 0 ≤ c) (h1 : c ≤ 255) (w : World) :
    Calls Try.prog 4 #[.string s, .int .i64 k, .int .u8 c] w fun e w' => e = .returned (.bool true) ∧ Below w.heap.size w w' := by
  by_cases hk : k < 0 ∨ (s.size : Int) < k
  · exact walk_ins_out s k c hs hk w
  · obtain ⟨n, rfl⟩ := Int.eq_ofNat_of_zero_le (show 0 ≤ k by omega)
    by_cases hc : 128 ≤ c
    · exact walk_ins_high s n c hs (by omega) hc w
    · have e : c = ((UInt8.ofNat c.toNat).toNat : Int) := by
        rw [UInt8.toNat_ofNat']
        omega
      rw [e]
      exact walk_ins s n (UInt8.ofNat c.toNat) hs (by omega) (by omega) w
end Go.Proofs.Qxb6628400a
