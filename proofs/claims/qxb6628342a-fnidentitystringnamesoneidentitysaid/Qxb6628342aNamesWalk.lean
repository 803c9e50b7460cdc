import Derived.Test.Qxb6628342aRead
namespace Go.Proofs.Qxb6628342a
open Go.RowKit

theorem grown_trans {a b c : World} (h : Grown a b) (k : Grown b c) : Grown a c :=
  ⟨World.keptBut_trans h.1 (World.keptBut_mono (fun _ f => f.elim) k.1), fun x => (k.2.1 x).trans (h.2.1 x), Nat.le_trans h.2.2 k.2.2⟩

def idText (sa : Bool) (ns name sp : ByteArray) : ByteArray := if sa then saText ns name else if sp.toList.isEmpty then anonText else spText sp
def IdVal (w : World) (v : Value) (sa : Bool) (ns name sp : ByteArray) : Prop :=
  match sa with
  | true => ∃ b, b < w.heap.size ∧ w.cell? ⟨b, 0, none⟩ = some (.string ns) ∧ w.cell? ⟨b, 1, none⟩ = some (.string name) ∧ v = .agg #[.pointer (some ⟨b, 0, none⟩), .string sp]
  | false => v = .agg #[.pointer none, .string sp]

theorem ident_any (sa : Bool) (ns name sp : ByteArray) (w : World) :
    Calls Try.prog 7 #[.bool sa, .string ns, .string name, .string sp] w fun e w' => ∃ v, e = .returned v ∧ IdVal w' v sa ns name sp ∧ Grown w w' := by
  cases sa
  · refine (ident_no ns name sp w).mono ?_
    rintro e w' ⟨rfl, c1, rfl⟩
    exact ⟨_, rfl, rfl, (Grown.refl _).alloc _ _⟩
  · refine (ident_yes ns name sp w).mono ?_
    rintro e w' ⟨rfl, c1, rfl⟩
    exact ⟨_, rfl, ⟨_, by simp, by simp [go_sem], by simp [go_sem], rfl⟩, ((Grown.refl _).alloc _ _).alloc _ _⟩

theorem str_any (sa : Bool) (ns name sp : ByteArray) (v : Value) (w : World) (hv : IdVal w v sa ns name sp) (n0 : ns.size ≤ 1048576) (n1 : name.size ≤ 1048576) (n2 : sp.size ≤ 1048576) :
    Calls Try.prog 8 #[v] w fun e w' => e = .returned (.string (idText sa ns name sp)) ∧ Grown w w' := by
  cases sa
  · obtain rfl := hv
    cases h : sp.toList.isEmpty
    · refine (str_sp sp h n2 w).mono ?_
      rintro e w' ⟨rfl, c1, rfl⟩
      exact ⟨by simp [idText, h], (Grown.refl _).alloc _ _⟩
    · have : sp = ⟨#[]⟩ := by
        rw [ByteArray.toList_eq] at h
        apply ByteArray.ext
        apply Array.ext'
        simpa using h
      subst this
      refine (str_an w).mono ?_
      rintro e w' ⟨rfl, c1, rfl⟩
      exact ⟨by simp [idText], (Grown.refl _).alloc _ _⟩
  · obtain ⟨b, hb, h0, h1, rfl⟩ := hv
    refine (str_sa b ns name sp w hb h0 h1 n0 n1).mono ?_
    rintro e w' ⟨rfl, c1, n, rfl⟩
    exact ⟨by simp [idText], Grown.drewN' ((Grown.refl _).alloc _ _) _⟩

theorem toList_inj {a b : ByteArray} (h : a.toList = b.toList) : a = b := by
  rw [ByteArray.toList_eq, ByteArray.toList_eq] at h
  exact ByteArray.ext (Array.ext' h)
/-! plain laws on the texts -/
theorem sp_inj (a b : ByteArray) (h : spText a = spText b) : a = b := by
  have h' := congrArg (fun x : ByteArray => x.data.toList) h
  simp [spText] at h'
  exact ByteArray.ext (Array.ext' (by simpa using h'))
theorem sa_ne_sp (a b c : ByteArray) : saText a b ≠ spText c := by
  intro h
  have h' := congrArg (fun x : ByteArray => x.data.toList) h
  simp [saText, spText] at h'
theorem sa_ne_an (a b : ByteArray) : saText a b ≠ anonText := by
  intro h
  have h' := congrArg (fun x : ByteArray => x.data.toList) h
  simp [saText, anonText] at h'
theorem sp_ne_an (a : ByteArray) : spText a ≠ anonText := by
  intro h
  have h' := congrArg (fun x : ByteArray => x.data.toList) h
  simp [spText, anonText] at h'
theorem cut_inj : ∀ (a c b d : List UInt8), a.any (· == 47) = false → c.any (· == 47) = false → a ++ 47 :: b = c ++ 47 :: d → a = c ∧ b = d
  | [], [], b, d, _, _, h => by simpa using h
  | [], y :: c, b, d, _, hc, h => by
    simp at h
    simp [← h.1] at hc
  | x :: a, [], b, d, ha, _, h => by
    simp at h
    simp [h.1] at ha
  | x :: a, y :: c, b, d, ha, hc, h => by
    simp only [List.cons_append, List.cons.injEq] at h
    simp only [List.any_cons, Bool.or_eq_false_iff] at ha hc
    obtain ⟨h1, h2⟩ := cut_inj a c b d ha.2 hc.2 h.2
    exact ⟨by rw [h.1, h1], h2⟩
theorem sa_inj (a b c d : ByteArray) (ha : slashB a = false) (hc : slashB c = false) (h : saText a b = saText c d) : a = c ∧ b = d := by
  have h' := congrArg (fun x : ByteArray => x.data.toList) h
  simp [saText] at h'
  obtain ⟨h1, h2⟩ := cut_inj _ _ _ _ ha hc h'
  exact ⟨ByteArray.ext (Array.ext' h1), ByteArray.ext (Array.ext' h2)⟩
theorem sa_ne_id (a b c d e : ByteArray) : ¬ saText a b = idText false c d e := by
  unfold idText
  rw [if_neg (by decide)]
  split
  · exact sa_ne_an _ _
  · exact sa_ne_sp _ _ _
theorem beq_no {a b : ByteArray} (h : ¬ a = b) : (a.toList == b.toList) = false := by
  rw [beq_eq_false_iff_ne]
  exact fun c => h (toList_inj c)
theorem beq_yes {a b : ByteArray} (h : a = b) : (a.toList == b.toList) = true := by
  rw [h]; exact beq_self_eq_true _
theorem id_an (ns name sp : ByteArray) (h : sp.toList.isEmpty = true) : idText false ns name sp = anonText := by simp [idText, h]
theorem id_sp (ns name sp : ByteArray) (h : sp.toList.isEmpty = false) : idText false ns name sp = spText sp := by simp [idText, h]
theorem sp_id (a ns name b : ByteArray) (ha : a.toList.isEmpty = false) : (spText a = idText false ns name b) ↔ a = b := by
  cases h : b.toList.isEmpty
  · rw [id_sp _ _ _ h]
    exact ⟨sp_inj _ _, fun e => by rw [e]⟩
  · rw [id_an _ _ _ h]
    exact ⟨fun e => absurd e (sp_ne_an _), fun e => by rw [e, h] at ha; cases ha⟩
theorem empty_eq {a b : ByteArray} (ha : a.toList.isEmpty = true) (hb : b.toList.isEmpty = true) : a = b := by
  apply toList_inj
  rw [List.isEmpty_iff] at ha hb
  rw [ha, hb]
theorem an_id (a ns name b : ByteArray) (ha : a.toList.isEmpty = true) : (anonText = idText false ns name b) ↔ a = b := by
  cases h : b.toList.isEmpty
  · rw [id_sp _ _ _ h]
    exact ⟨fun e => absurd e.symm (sp_ne_an _), fun e => by rw [e, h] at ha; cases ha⟩
  · rw [id_an _ _ _ h]
    exact ⟨fun _ => empty_eq ha h, fun _ => rfl⟩

theorem str_any' (sa : Bool) (ns name sp : ByteArray) (T : ByteArray) (hT : idText sa ns name sp = T) (v : Value) (w : World) (hv : IdVal w v sa ns name sp) (n0 : (ns.size : Int) ≤ 65536) (n1 : (name.size : Int) ≤ 65536) (n2 : (sp.size : Int) ≤ 65536) :
    Calls Try.prog 8 #[v] w fun e w' => e = .returned (.string T) ∧ Grown w w' := by
  subst hT
  exact str_any sa ns name sp v w hv (by omega) (by omega) (by omega)

theorem walk_sl_a (a1 a2 a3 a5 a6 a7 : ByteArray) (w1 : a1.size ≤ maxLen) (w2 : a2.size ≤ maxLen) (w3 : a3.size ≤ maxLen) (w5 : a5.size ≤ maxLen) (w6 : a6.size ≤ maxLen) (w7 : a7.size ≤ maxLen)
    (a4 : Bool) (s1 : slashB a1 = true) (w : World) :
    Calls Try.prog 3 #[.bool true, .string a1, .string a2, .string a3, .bool a4, .string a5, .string a6, .string a7] w fun e w' => e = .returned (.bool true) ∧ Grown w w' := by
  go_enter Try.func3, Try.ntmps3
  go_wp2_with (go_at_call 5; refine (zzBytes_names _ a1 a2 a3 _ a5 a6 a7 w1 w2 w3 w5 w6 w7 _).mono ?_; rintro e w' ⟨b, rfl, rfl⟩)
  iterate 7 (· go_ret; exact ⟨rfl, Grown.refl _⟩)
  have g1 : (a1.size : Int) ≤ 65536 := by assumption
  have g2 : (a2.size : Int) ≤ 65536 := by assumption
  have g3 : (a3.size : Int) ≤ 65536 := by assumption
  have g5 : (a5.size : Int) ≤ 65536 := by assumption
  have g6 : (a6.size : Int) ≤ 65536 := by assumption
  have g7 : (a7.size : Int) ≤ 65536 := by assumption
  refine (hasSlash_any a1 (by omega) _).mono ?_
  rintro e w' ⟨rfl, rfl⟩
  go_wp2_with fail
  go_ret
  exact ⟨rfl, Grown.refl _⟩

theorem walk_sl_tb (a1 a2 a3 a5 a6 a7 : ByteArray) (w1 : a1.size ≤ maxLen) (w2 : a2.size ≤ maxLen) (w3 : a3.size ≤ maxLen) (w5 : a5.size ≤ maxLen) (w6 : a6.size ≤ maxLen) (w7 : a7.size ≤ maxLen)
    (s1 : slashB a1 = false) (s5 : slashB a5 = true) (w : World) :
    Calls Try.prog 3 #[.bool true, .string a1, .string a2, .string a3, .bool true, .string a5, .string a6, .string a7] w fun e w' => e = .returned (.bool true) ∧ Grown w w' := by
  go_enter Try.func3, Try.ntmps3
  go_wp2_with (go_at_call 5; refine (zzBytes_names _ a1 a2 a3 _ a5 a6 a7 w1 w2 w3 w5 w6 w7 _).mono ?_; rintro e w' ⟨b, rfl, rfl⟩)
  iterate 7 (· go_ret; exact ⟨rfl, Grown.refl _⟩)
  have g1 : (a1.size : Int) ≤ 65536 := by assumption
  have g2 : (a2.size : Int) ≤ 65536 := by assumption
  have g3 : (a3.size : Int) ≤ 65536 := by assumption
  have g5 : (a5.size : Int) ≤ 65536 := by assumption
  have g6 : (a6.size : Int) ≤ 65536 := by assumption
  have g7 : (a7.size : Int) ≤ 65536 := by assumption
  refine (hasSlash_any a1 (by omega) _).mono ?_
  rintro e w' ⟨rfl, rfl⟩
  go_wp2_with fail
  refine (hasSlash_any a5 (by omega) _).mono ?_
  rintro e w' ⟨rfl, rfl⟩
  go_wp2_with fail
  go_ret
  exact ⟨rfl, Grown.refl _⟩

theorem walk_sl_fb (a1 a2 a3 a5 a6 a7 : ByteArray) (w1 : a1.size ≤ maxLen) (w2 : a2.size ≤ maxLen) (w3 : a3.size ≤ maxLen) (w5 : a5.size ≤ maxLen) (w6 : a6.size ≤ maxLen) (w7 : a7.size ≤ maxLen)
    (s5 : slashB a5 = true) (w : World) :
    Calls Try.prog 3 #[.bool false, .string a1, .string a2, .string a3, .bool true, .string a5, .string a6, .string a7] w fun e w' => e = .returned (.bool true) ∧ Grown w w' := by
  go_enter Try.func3, Try.ntmps3
  go_wp2_with (go_at_call 5; refine (zzBytes_names _ a1 a2 a3 _ a5 a6 a7 w1 w2 w3 w5 w6 w7 _).mono ?_; rintro e w' ⟨b, rfl, rfl⟩)
  iterate 7 (· go_ret; exact ⟨rfl, Grown.refl _⟩)
  have g1 : (a1.size : Int) ≤ 65536 := by assumption
  have g2 : (a2.size : Int) ≤ 65536 := by assumption
  have g3 : (a3.size : Int) ≤ 65536 := by assumption
  have g5 : (a5.size : Int) ≤ 65536 := by assumption
  have g6 : (a6.size : Int) ≤ 65536 := by assumption
  have g7 : (a7.size : Int) ≤ 65536 := by assumption
  refine (hasSlash_any a5 (by omega) _).mono ?_
  rintro e w' ⟨rfl, rfl⟩
  go_wp2_with fail
  go_ret
  exact ⟨rfl, Grown.refl _⟩

theorem walk_tt (a1 a2 a3 a5 a6 a7 : ByteArray) (w1 : a1.size ≤ maxLen) (w2 : a2.size ≤ maxLen) (w3 : a3.size ≤ maxLen) (w5 : a5.size ≤ maxLen) (w6 : a6.size ≤ maxLen) (w7 : a7.size ≤ maxLen)
    (s1 : slashB a1 = false) (s5 : slashB a5 = false) (w : World) :
    Calls Try.prog 3 #[.bool true, .string a1, .string a2, .string a3, .bool true, .string a5, .string a6, .string a7] w fun e w' => e = .returned (.bool true) ∧ Grown w w' := by
  go_enter Try.func3, Try.ntmps3
  go_wp2_with (go_at_call 5; refine (zzBytes_names _ a1 a2 a3 _ a5 a6 a7 w1 w2 w3 w5 w6 w7 _).mono ?_; rintro e w' ⟨b, rfl, rfl⟩)
  iterate 7 (· go_ret; exact ⟨rfl, Grown.refl _⟩)
  have g1 : (a1.size : Int) ≤ 65536 := by assumption
  have g2 : (a2.size : Int) ≤ 65536 := by assumption
  have g3 : (a3.size : Int) ≤ 65536 := by assumption
  have g5 : (a5.size : Int) ≤ 65536 := by assumption
  have g6 : (a6.size : Int) ≤ 65536 := by assumption
  have g7 : (a7.size : Int) ≤ 65536 := by assumption
  refine (hasSlash_any a1 (by omega) _).mono ?_
  rintro e w' ⟨rfl, rfl⟩
  go_wp2_with fail
  refine (hasSlash_any a5 (by omega) _).mono ?_
  rintro e w' ⟨rfl, rfl⟩
  go_wp2_with fail
  refine (ident_any true a1 a2 a3 _).mono ?_
  rintro e x1 ⟨v1, rfl, hv1, k1⟩
  go_wp2_with fail
  refine (str_any' true a1 a2 a3 (saText a1 a2) (by simp [idText]) v1 _ hv1 g1 g2 g3).mono ?_
  rintro e x2 ⟨rfl, k2⟩
  go_wp2_with fail
  refine (ident_any true a5 a6 a7 _).mono ?_
  rintro e x3 ⟨v3, rfl, hv3, k3⟩
  go_wp2_with fail
  refine (str_any' true a5 a6 a7 (saText a5 a6) (by simp [idText]) v3 _ hv3 g5 g6 g7).mono ?_
  rintro e x4 ⟨rfl, k4⟩
  have k14 := grown_trans (grown_trans (grown_trans k1 k2) k3) k4
  clear k1 k2 k3 k4 hv1 hv3
  have K : Hid (Grown w x4) := k14
  clear k14
  by_cases c1 : a1 = a5
  · have c1' := beq_yes c1
    by_cases c2 : a2 = a6
    · have c2' := beq_yes c2
      have c3' : ((saText a1 a2).toList == (saText a5 a6).toList) = true := beq_yes (by rw [c1, c2])
      clear c1 c2
      go_wp2_with fail
      refine (read_sa a1 a2 s1 (by omega) (by omega) _).mono ?_
      rintro e x5 ⟨rfl, n, rfl⟩
      go_wp2_with fail
      go_ret
      exact ⟨rfl, K.out⟩
    · have c2' := beq_no c2
      have c3' : ((saText a1 a2).toList == (saText a5 a6).toList) = false := beq_no (fun c => c2 (sa_inj _ _ _ _ s1 s5 c).2)
      clear c1 c2
      go_wp2_with fail
      refine (read_sa a1 a2 s1 (by omega) (by omega) _).mono ?_
      rintro e x5 ⟨rfl, n, rfl⟩
      go_wp2_with fail
      go_ret
      exact ⟨rfl, K.out⟩
  · have c1' := beq_no c1
    have c3' : ((saText a1 a2).toList == (saText a5 a6).toList) = false := beq_no (fun c => c1 (sa_inj _ _ _ _ s1 s5 c).1)
    clear c1
    go_wp2_with fail
    refine (read_sa a1 a2 s1 (by omega) (by omega) _).mono ?_
    rintro e x5 ⟨rfl, n, rfl⟩
    go_wp2_with fail
    go_ret
    exact ⟨rfl, K.out⟩

theorem walk_tf (a1 a2 a3 a5 a6 a7 : ByteArray) (w1 : a1.size ≤ maxLen) (w2 : a2.size ≤ maxLen) (w3 : a3.size ≤ maxLen) (w5 : a5.size ≤ maxLen) (w6 : a6.size ≤ maxLen) (w7 : a7.size ≤ maxLen)
    (s1 : slashB a1 = false) (w : World) :
    Calls Try.prog 3 #[.bool true, .string a1, .string a2, .string a3, .bool false, .string a5, .string a6, .string a7] w fun e w' => e = .returned (.bool true) ∧ Grown w w' := by
  go_enter Try.func3, Try.ntmps3
  go_wp2_with (go_at_call 5; refine (zzBytes_names _ a1 a2 a3 _ a5 a6 a7 w1 w2 w3 w5 w6 w7 _).mono ?_; rintro e w' ⟨b, rfl, rfl⟩)
  iterate 7 (· go_ret; exact ⟨rfl, Grown.refl _⟩)
  have g1 : (a1.size : Int) ≤ 65536 := by assumption
  have g2 : (a2.size : Int) ≤ 65536 := by assumption
  have g3 : (a3.size : Int) ≤ 65536 := by assumption
  have g5 : (a5.size : Int) ≤ 65536 := by assumption
  have g6 : (a6.size : Int) ≤ 65536 := by assumption
  have g7 : (a7.size : Int) ≤ 65536 := by assumption
  refine (hasSlash_any a1 (by omega) _).mono ?_
  rintro e w' ⟨rfl, rfl⟩
  go_wp2_with fail
  refine (ident_any true a1 a2 a3 _).mono ?_
  rintro e x1 ⟨v1, rfl, hv1, k1⟩
  go_wp2_with fail
  refine (str_any' true a1 a2 a3 (saText a1 a2) (by simp [idText]) v1 _ hv1 g1 g2 g3).mono ?_
  rintro e x2 ⟨rfl, k2⟩
  go_wp2_with fail
  refine (ident_any false a5 a6 a7 _).mono ?_
  rintro e x3 ⟨v3, rfl, hv3, k3⟩
  go_wp2_with fail
  refine (str_any' false a5 a6 a7 (idText false a5 a6 a7) rfl v3 _ hv3 g5 g6 g7).mono ?_
  rintro e x4 ⟨rfl, k4⟩
  have k14 := grown_trans (grown_trans (grown_trans k1 k2) k3) k4
  clear k1 k2 k3 k4 hv1 hv3
  have K : Hid (Grown w x4) := k14
  clear k14
  have c3' : ((saText a1 a2).toList == (idText false a5 a6 a7).toList) = false := beq_no (sa_ne_id _ _ _ _ _)
  go_wp2_with fail
  refine (read_sa a1 a2 s1 (by omega) (by omega) _).mono ?_
  rintro e x5 ⟨rfl, n, rfl⟩
  go_wp2_with fail
  go_ret
  exact ⟨rfl, K.out⟩

theorem walk_ft_sp (a1 a2 a3 a5 a6 a7 : ByteArray) (w1 : a1.size ≤ maxLen) (w2 : a2.size ≤ maxLen) (w3 : a3.size ≤ maxLen) (w5 : a5.size ≤ maxLen) (w6 : a6.size ≤ maxLen) (w7 : a7.size ≤ maxLen)
    (he : a3.toList.isEmpty = false) (s5 : slashB a5 = false) (w : World) :
    Calls Try.prog 3 #[.bool false, .string a1, .string a2, .string a3, .bool true, .string a5, .string a6, .string a7] w fun e w' => e = .returned (.bool true) ∧ Grown w w' := by
  go_enter Try.func3, Try.ntmps3
  go_wp2_with (go_at_call 5; refine (zzBytes_names _ a1 a2 a3 _ a5 a6 a7 w1 w2 w3 w5 w6 w7 _).mono ?_; rintro e w' ⟨b, rfl, rfl⟩)
  iterate 7 (· go_ret; exact ⟨rfl, Grown.refl _⟩)
  have g1 : (a1.size : Int) ≤ 65536 := by assumption
  have g2 : (a2.size : Int) ≤ 65536 := by assumption
  have g3 : (a3.size : Int) ≤ 65536 := by assumption
  have g5 : (a5.size : Int) ≤ 65536 := by assumption
  have g6 : (a6.size : Int) ≤ 65536 := by assumption
  have g7 : (a7.size : Int) ≤ 65536 := by assumption
  refine (hasSlash_any a5 (by omega) _).mono ?_
  rintro e w' ⟨rfl, rfl⟩
  go_wp2_with fail
  refine (ident_any false a1 a2 a3 _).mono ?_
  rintro e x1 ⟨v1, rfl, hv1, k1⟩
  go_wp2_with fail
  refine (str_any' false a1 a2 a3 (spText a3) (id_sp _ _ _ he) v1 _ hv1 g1 g2 g3).mono ?_
  rintro e x2 ⟨rfl, k2⟩
  go_wp2_with fail
  refine (ident_any true a5 a6 a7 _).mono ?_
  rintro e x3 ⟨v3, rfl, hv3, k3⟩
  go_wp2_with fail
  refine (str_any' true a5 a6 a7 (saText a5 a6) (by simp [idText]) v3 _ hv3 g5 g6 g7).mono ?_
  rintro e x4 ⟨rfl, k4⟩
  have k14 := grown_trans (grown_trans (grown_trans k1 k2) k3) k4
  clear k1 k2 k3 k4 hv1 hv3
  have K : Hid (Grown w x4) := k14
  clear k14
  have c3' : ((spText a3).toList == (saText a5 a6).toList) = false := beq_no (fun c => sa_ne_sp _ _ _ c.symm)
  go_wp2_with fail
  refine (read_sp a3 he (by omega) _).mono ?_
  rintro e x5 ⟨rfl, n, rfl⟩
  go_wp2_with fail
  go_ret
  exact ⟨rfl, K.out⟩

theorem walk_ft_an (a1 a2 a3 a5 a6 a7 : ByteArray) (w1 : a1.size ≤ maxLen) (w2 : a2.size ≤ maxLen) (w3 : a3.size ≤ maxLen) (w5 : a5.size ≤ maxLen) (w6 : a6.size ≤ maxLen) (w7 : a7.size ≤ maxLen)
    (he : a3.toList.isEmpty = true) (s5 : slashB a5 = false) (w : World) :
    Calls Try.prog 3 #[.bool false, .string a1, .string a2, .string a3, .bool true, .string a5, .string a6, .string a7] w fun e w' => e = .returned (.bool true) ∧ Grown w w' := by
  go_enter Try.func3, Try.ntmps3
  go_wp2_with (go_at_call 5; refine (zzBytes_names _ a1 a2 a3 _ a5 a6 a7 w1 w2 w3 w5 w6 w7 _).mono ?_; rintro e w' ⟨b, rfl, rfl⟩)
  iterate 7 (· go_ret; exact ⟨rfl, Grown.refl _⟩)
  have g1 : (a1.size : Int) ≤ 65536 := by assumption
  have g2 : (a2.size : Int) ≤ 65536 := by assumption
  have g3 : (a3.size : Int) ≤ 65536 := by assumption
  have g5 : (a5.size : Int) ≤ 65536 := by assumption
  have g6 : (a6.size : Int) ≤ 65536 := by assumption
  have g7 : (a7.size : Int) ≤ 65536 := by assumption
  refine (hasSlash_any a5 (by omega) _).mono ?_
  rintro e w' ⟨rfl, rfl⟩
  go_wp2_with fail
  refine (ident_any false a1 a2 a3 _).mono ?_
  rintro e x1 ⟨v1, rfl, hv1, k1⟩
  go_wp2_with fail
  refine (str_any' false a1 a2 a3 anonText (id_an _ _ _ he) v1 _ hv1 g1 g2 g3).mono ?_
  rintro e x2 ⟨rfl, k2⟩
  go_wp2_with fail
  refine (ident_any true a5 a6 a7 _).mono ?_
  rintro e x3 ⟨v3, rfl, hv3, k3⟩
  go_wp2_with fail
  refine (str_any' true a5 a6 a7 (saText a5 a6) (by simp [idText]) v3 _ hv3 g5 g6 g7).mono ?_
  rintro e x4 ⟨rfl, k4⟩
  have k14 := grown_trans (grown_trans (grown_trans k1 k2) k3) k4
  clear k1 k2 k3 k4 hv1 hv3
  have K : Hid (Grown w x4) := k14
  clear k14
  have c3' : (anonText.toList == (saText a5 a6).toList) = false := beq_no (fun c => sa_ne_an _ _ c.symm)
  go_wp2_with fail
  refine (read_an _).mono ?_
  rintro e x5 ⟨rfl, n, rfl⟩
  go_wp2_with fail
  go_ret
  exact ⟨rfl, K.out⟩

theorem walk_ff_sp (a1 a2 a3 a5 a6 a7 : ByteArray) (w1 : a1.size ≤ maxLen) (w2 : a2.size ≤ maxLen) (w3 : a3.size ≤ maxLen) (w5 : a5.size ≤ maxLen) (w6 : a6.size ≤ maxLen) (w7 : a7.size ≤ maxLen)
    (he : a3.toList.isEmpty = false) (w : World) :
    Calls Try.prog 3 #[.bool false, .string a1, .string a2, .string a3, .bool false, .string a5, .string a6, .string a7] w fun e w' => e = .returned (.bool true) ∧ Grown w w' := by
  go_enter Try.func3, Try.ntmps3
  go_wp2_with (go_at_call 5; refine (zzBytes_names _ a1 a2 a3 _ a5 a6 a7 w1 w2 w3 w5 w6 w7 _).mono ?_; rintro e w' ⟨b, rfl, rfl⟩)
  iterate 7 (· go_ret; exact ⟨rfl, Grown.refl _⟩)
  have g1 : (a1.size : Int) ≤ 65536 := by assumption
  have g2 : (a2.size : Int) ≤ 65536 := by assumption
  have g3 : (a3.size : Int) ≤ 65536 := by assumption
  have g5 : (a5.size : Int) ≤ 65536 := by assumption
  have g6 : (a6.size : Int) ≤ 65536 := by assumption
  have g7 : (a7.size : Int) ≤ 65536 := by assumption
  refine (ident_any false a1 a2 a3 _).mono ?_
  rintro e x1 ⟨v1, rfl, hv1, k1⟩
  go_wp2_with fail
  refine (str_any' false a1 a2 a3 (spText a3) (id_sp _ _ _ he) v1 _ hv1 g1 g2 g3).mono ?_
  rintro e x2 ⟨rfl, k2⟩
  go_wp2_with fail
  refine (ident_any false a5 a6 a7 _).mono ?_
  rintro e x3 ⟨v3, rfl, hv3, k3⟩
  go_wp2_with fail
  refine (str_any' false a5 a6 a7 (idText false a5 a6 a7) rfl v3 _ hv3 g5 g6 g7).mono ?_
  rintro e x4 ⟨rfl, k4⟩
  have k14 := grown_trans (grown_trans (grown_trans k1 k2) k3) k4
  clear k1 k2 k3 k4 hv1 hv3
  have K : Hid (Grown w x4) := k14
  clear k14
  by_cases c1 : a3 = a7
  · have c1' := beq_yes c1
    have c3' : ((spText a3).toList == (idText false a5 a6 a7).toList) = true := beq_yes ((sp_id a3 a5 a6 a7 he).2 c1)
    clear c1
    go_wp2_with fail
    refine (read_sp a3 he (by omega) _).mono ?_
    rintro e x5 ⟨rfl, n, rfl⟩
    go_wp2_with fail
    go_ret
    exact ⟨rfl, K.out⟩
  · have c1' := beq_no c1
    have c3' : ((spText a3).toList == (idText false a5 a6 a7).toList) = false := beq_no (fun c => c1 ((sp_id a3 a5 a6 a7 he).1 c))
    clear c1
    go_wp2_with fail
    refine (read_sp a3 he (by omega) _).mono ?_
    rintro e x5 ⟨rfl, n, rfl⟩
    go_wp2_with fail
    go_ret
    exact ⟨rfl, K.out⟩

theorem walk_ff_an (a1 a2 a3 a5 a6 a7 : ByteArray) (w1 : a1.size ≤ maxLen) (w2 : a2.size ≤ maxLen) (w3 : a3.size ≤ maxLen) (w5 : a5.size ≤ maxLen) (w6 : a6.size ≤ maxLen) (w7 : a7.size ≤ maxLen)
    (he : a3.toList.isEmpty = true) (w : World) :
    Calls Try.prog 3 #[.bool false, .string a1, .string a2, .string a3, .bool false, .string a5, .string a6, .string a7] w fun e w' => e = .returned (.bool true) ∧ Grown w w' := by
  go_enter Try.func3, Try.ntmps3
  go_wp2_with (go_at_call 5; refine (zzBytes_names _ a1 a2 a3 _ a5 a6 a7 w1 w2 w3 w5 w6 w7 _).mono ?_; rintro e w' ⟨b, rfl, rfl⟩)
  iterate 7 (· go_ret; exact ⟨rfl, Grown.refl _⟩)
  have g1 : (a1.size : Int) ≤ 65536 := by assumption
  have g2 : (a2.size : Int) ≤ 65536 := by assumption
  have g3 : (a3.size : Int) ≤ 65536 := by assumption
  have g5 : (a5.size : Int) ≤ 65536 := by assumption
  have g6 : (a6.size : Int) ≤ 65536 := by assumption
  have g7 : (a7.size : Int) ≤ 65536 := by assumption
  refine (ident_any false a1 a2 a3 _).mono ?_
  rintro e x1 ⟨v1, rfl, hv1, k1⟩
  go_wp2_with fail
  refine (str_any' false a1 a2 a3 anonText (id_an _ _ _ he) v1 _ hv1 g1 g2 g3).mono ?_
  rintro e x2 ⟨rfl, k2⟩
  go_wp2_with fail
  refine (ident_any false a5 a6 a7 _).mono ?_
  rintro e x3 ⟨v3, rfl, hv3, k3⟩
  go_wp2_with fail
  refine (str_any' false a5 a6 a7 (idText false a5 a6 a7) rfl v3 _ hv3 g5 g6 g7).mono ?_
  rintro e x4 ⟨rfl, k4⟩
  have k14 := grown_trans (grown_trans (grown_trans k1 k2) k3) k4
  clear k1 k2 k3 k4 hv1 hv3
  have K : Hid (Grown w x4) := k14
  clear k14
  by_cases c1 : a3 = a7
  · have c1' := beq_yes c1
    have c3' : (anonText.toList == (idText false a5 a6 a7).toList) = true := beq_yes ((an_id a3 a5 a6 a7 he).2 c1)
    clear c1
    go_wp2_with fail
    refine (read_an _).mono ?_
    rintro e x5 ⟨rfl, n, rfl⟩
    go_wp2_with fail
    go_ret
    exact ⟨rfl, K.out⟩
  · have c1' := beq_no c1
    have c3' : (anonText.toList == (idText false a5 a6 a7).toList) = false := beq_no (fun c => c1 ((an_id a3 a5 a6 a7 he).1 c))
    clear c1
    go_wp2_with fail
    refine (read_an _).mono ?_
    rintro e x5 ⟨rfl, n, rfl⟩
    go_wp2_with fail
    go_ret
    exact ⟨rfl, K.out⟩

theorem walk_names (a0 : Bool) (a1 : ByteArray) (a2 : ByteArray) (a3 : ByteArray) (a4 : Bool) (a5 : ByteArray) (a6 : ByteArray) (a7 : ByteArray) (w1 : a1.size ≤ maxLen) (w2 : a2.size ≤ maxLen) (w3 : a3.size ≤ maxLen) (w5 : a5.size ≤ maxLen) (w6 : a6.size ≤ maxLen) (w7 : a7.size ≤ maxLen) (w : World) :
    Calls Try.prog 3 #[.bool a0, .string a1, .string a2, .string a3, .bool a4, .string a5, .string a6, .string a7] w fun e w' => e = .returned (.bool true) ∧ Grown w w' := by
  cases a0
  · cases a4
    · cases he : a3.toList.isEmpty
      · exact walk_ff_sp a1 a2 a3 a5 a6 a7 w1 w2 w3 w5 w6 w7 he w
      · exact walk_ff_an a1 a2 a3 a5 a6 a7 w1 w2 w3 w5 w6 w7 he w
    · cases s5 : slashB a5
      · cases he : a3.toList.isEmpty
        · exact walk_ft_sp a1 a2 a3 a5 a6 a7 w1 w2 w3 w5 w6 w7 he s5 w
        · exact walk_ft_an a1 a2 a3 a5 a6 a7 w1 w2 w3 w5 w6 w7 he s5 w
      · exact walk_sl_fb a1 a2 a3 a5 a6 a7 w1 w2 w3 w5 w6 w7 s5 w
  · cases s1 : slashB a1
    · cases a4
      · exact walk_tf a1 a2 a3 a5 a6 a7 w1 w2 w3 w5 w6 w7 s1 w
      · cases s5 : slashB a5
        · exact walk_tt a1 a2 a3 a5 a6 a7 w1 w2 w3 w5 w6 w7 s1 s5 w
        · exact walk_sl_tb a1 a2 a3 a5 a6 a7 w1 w2 w3 w5 w6 w7 s1 s5 w
    · exact walk_sl_a a1 a2 a3 a5 a6 a7 w1 w2 w3 w5 w6 w7 a4 s1 w
end Go.Proofs.Qxb6628342a
