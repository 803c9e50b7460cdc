import Derived.Test.Qxb6628342aParse
namespace Go.Proofs.Qxb6628342a
open Go.RowKit

theorem read_an (w : World) :
    Calls Try.prog 9 #[.string anonText] w fun e w' => e = .returned (.tuple #[.int .i64 0, .string ⟨#[]⟩, .string ⟨#[]⟩, .string ⟨#[]⟩]) ∧ ∃ n, w' = w.drewN n := by
  unfold anonText
  go_enter Try.func9, Try.ntmps9
  go_wp2
  exact bodyPost_ret (v := .tuple #[.int .i64 0, .string ⟨#[]⟩, .string ⟨#[]⟩, .string ⟨#[]⟩]) (by simp [results, Try.results9, go_sem]) rfl ⟨rfl, 0, rfl⟩

theorem spText_na (sp : ByteArray) : ((spText sp).toList == [97, 110, 111, 110, 121, 109, 111, 117, 115]) = false := by
  rw [ByteArray.toList_eq]
  simp [spText]
theorem saText_na (ns name : ByteArray) : ((saText ns name).toList == [97, 110, 111, 110, 121, 109, 111, 117, 115]) = false := by
  rw [ByteArray.toList_eq]
  simp [saText]

theorem read_sp (sp : ByteArray) (hne : sp.toList.isEmpty = false) (hs : sp.size ≤ 1048576) (w : World) :
    Calls Try.prog 9 #[.string (spText sp)] w fun e w' => e = .returned (.tuple #[.int .i64 1, .string ⟨#[]⟩, .string ⟨#[]⟩, .string sp]) ∧ ∃ n, w' = w.drewN n := by
  have hna := spText_na sp
  go_enter Try.func9, Try.ntmps9
  go_wp2_with fail
  refine (after_yes ⟨#[115, 112, 105, 102, 102, 101, 58]⟩ sp (by decide) (by omega) _).mono ?_
  rintro e w' ⟨rfl, n, rfl⟩
  go_wp2_with fail
  exact bodyPost_ret (v := .tuple #[.int .i64 1, .string ⟨#[]⟩, .string ⟨#[]⟩, .string sp]) (by simp [results, Try.results9, go_sem]) rfl ⟨rfl, n, rfl⟩

theorem extract_left (p r : ByteArray) : (p ++ r).extract 0 p.size = p := by
  apply ByteArray.ext
  apply Array.ext'
  simp
  rw [List.take_of_length_le (by simp)]
  
theorem saText_split (ns name : ByteArray) : saText ns name = ⟨#[115, 101, 114, 118, 105, 99, 101, 97, 99, 99, 111, 117, 110, 116, 58]⟩ ++ (ns ++ (⟨#[47]⟩ ++ name)) := by
  simp [saText, ByteArray.append_assoc]

theorem read_sa (ns name : ByteArray) (hn : slashB ns = false) (h0 : ns.size ≤ 1048576) (h1 : name.size ≤ 1048576) (w : World) :
    Calls Try.prog 9 #[.string (saText ns name)] w fun e w' => e = .returned (.tuple #[.int .i64 2, .string ns, .string name, .string ⟨#[]⟩]) ∧ ∃ n, w' = w.drewN n := by
  have hna := saText_na ns name
  have hz := saText_size ns name
  have hsp := saText_split ns name
  have hx1 : (ns ++ (⟨#[47]⟩ ++ name)).extract 0 ns.size = ns := extract_left _ _
  have hx2 : (ns ++ (⟨#[47]⟩ ++ name)).extract (ns.size + 1) (ns ++ (⟨#[47]⟩ ++ name)).size = name := by
    have := extract_app (ns ++ ⟨#[47]⟩) name
    rw [ByteArray.append_assoc, ByteArray.size_append] at this
    exact this
  have hrz : (ns ++ (⟨#[47]⟩ ++ name)).size = ns.size + 1 + name.size := by
    simp only [ByteArray.size_append]
    rw [show (ByteArray.mk #[47]).size = 1 from rfl]; omega
  have hkn : ∀ k (h : k < (ns ++ (⟨#[47]⟩ ++ name)).size), k < ns.size → ((((ns ++ (⟨#[47]⟩ ++ name))[k]).toNat : Int) == 47) = false := by
    intro k h hk
    rw [ByteArray.getElem_append_left hk]
    have := NoSl_of hn ns.size k hk hk
    rw [beq_eq_false_iff_ne]
    intro c
    exact this (UInt8.toNat_inj.1 (by show ns[k].toNat = 47; omega))
  have hkm : ∀ (h : ns.size < (ns ++ (⟨#[47]⟩ ++ name)).size), (ns ++ (⟨#[47]⟩ ++ name))[ns.size] = 47 := by
    intro h
    rw [ByteArray.getElem_append_right (by omega)]
    simp only [Nat.sub_self]
    rw [ByteArray.getElem_append_left (by decide)]
    rfl
  have hne : ∀ h1 h2, ¬ (saText ns name)[1]'h1 = (ByteArray.mk #[115, 112, 105, 102, 102, 101, 58])[1]'h2 := by
    rw [hsp]
    intro h1 h2
    rw [ByteArray.getElem_append_left (by decide)]
    show ¬ (101 : UInt8) = 112
    decide
  generalize hR : ns ++ (⟨#[47]⟩ ++ name) = R at *
  have HN : Hid (∀ h1 h2, ¬ (saText ns name)[1]'h1 = (ByteArray.mk #[115, 112, 105, 102, 102, 101, 58])[1]'h2) := hne
  have HS : Hid (saText ns name = ⟨#[115, 101, 114, 118, 105, 99, 101, 97, 99, 99, 111, 117, 110, 116, 58]⟩ ++ R) := hsp
  have HX1 : Hid (R.extract 0 ns.size = ns) := hx1
  have HX2 : Hid (R.extract (ns.size + 1) R.size = name) := hx2
  have HKN : Hid (∀ k (h : k < R.size), k < ns.size → ((R[k].toNat : Int) == 47) = false) := hkn
  have HKM : Hid (∀ (h : ns.size < R.size), R[ns.size] = 47) := hkm
  have g1 : (saText ns name).size ≤ 3000000 := by omega
  have g2 : 16 ≤ (saText ns name).size := by omega
  have g3 : ns.size < R.size := by omega
  have g4 : R.size ≤ 3000000 := by omega
  clear hne hsp hx1 hx2 hkn hkm hR hz hrz
  go_enter Try.func9, Try.ntmps9
  go_wp2_with fail
  refine (after_no (saText ns name) ⟨#[115, 112, 105, 102, 102, 101, 58]⟩ 1 (show 7 ≤ _ by omega) (by decide) (HN.out _ _) (by omega) _).mono ?_
  rintro e w' ⟨rfl, n, rfl⟩
  go_wp2_with fail
  rw [HS.out]
  refine (after_yes ⟨#[115, 101, 114, 118, 105, 99, 101, 97, 99, 99, 111, 117, 110, 116, 58]⟩ R (by decide) (by omega) _).mono ?_
  rintro e w' ⟨rfl, n2, rfl⟩
  go_wp2_with fail
  go_loopw [10] (fun i w' => ∃ k : Nat, k ≤ ns.size ∧ i = .int .i64 k ∧ ∃ n, w' = w.drewN n) (fun i _ => R.size - (intOf i).toNat)
  case atStart => exact ⟨0, Nat.zero_le _, rfl, _, rfl⟩
  case round =>
    obtain ⟨k, hk, rfl, n, rfl⟩ := hrel
    by_cases hlt : k < ns.size
    · have e := HKN.out k (by omega) hlt
      have hlt' : k < R.size := by omega
      go_wp2
      go_roundw
      case rel => exact ⟨k + 1, by omega, by go_num, _, rfl⟩
      case measure => simp [intOf]; omega
    · obtain rfl : k = ns.size := by omega
      have e : R[ns.size] = 47 := HKM.out (by omega)
      go_wp2
      go_quiet (fail)
      go_wp2
      exact bodyPost_ret (v := .tuple #[.int .i64 2, .string ns, .string name, .string ⟨#[]⟩]) (by simp [results, Try.results9, go_sem, HX1.out, HX2.out]) rfl ⟨rfl, _, World.drewN_drewN _ _ _⟩
end Go.Proofs.Qxb6628342a
