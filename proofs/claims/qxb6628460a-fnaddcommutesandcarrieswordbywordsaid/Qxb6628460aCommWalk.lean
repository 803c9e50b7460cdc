import Derived.Test.Qxb6628460aAssocWalk
namespace Go.Proofs.Qxb6628460a
open Go.RowKit
theorem word0 : Word 0 := ⟨by decide, by decide⟩
/-- What zzSum3's ok gives here. -/
theorem comm_facts (dh dl eh el : Int) (a : Word dh) (a' : Word dl) (b : Word eh) (b' : Word el) (hk : okV dh eh 0 dl el 0 = true) :
    ∃ ph pl : Int, Adds dh dl eh el (hiV dh eh 0 dl el 0) (loV dl el 0) ∧ Adds eh el dh dl (hiV dh eh 0 dl el 0) (loV dl el 0) ∧ Adds dh dl eh 0 ph pl ∧ Adds ph pl 0 el (hiV dh eh 0 dl el 0) (loV dl el 0) := by
  have hh := high_eq dh eh 0 dl el 0 a b word0 a' b' word0
  have hl := low_eq dl el 0 a' b' word0
  have hb : (dh + eh + 0 + (dl + el + 0) / 18446744073709551616) / 18446744073709551616 = 0 := by
    rw [← hh.2]
    simpa [okV] using hk
  rw [hh.1, hl.1]
  have W1 := a; have W2 := a'; have W3 := b; have W4 := b'
  obtain ⟨_, _⟩ := a; obtain ⟨_, _⟩ := b
  obtain ⟨_, _⟩ := a'; obtain ⟨_, _⟩ := b'
  refine ⟨dh + eh + (dl + 0) / 18446744073709551616, (dl + 0) % 18446744073709551616, ⟨⟨W1, W2, W3, W4⟩, ?_, ?_, ?_⟩, ⟨⟨W3, W4, W1, W2⟩, ?_, ?_, ?_⟩, ⟨⟨W1, W2, W3, word0⟩, ?_, rfl, rfl⟩, ⟨⟨⟨?_, ?_⟩, ⟨?_, ?_⟩, word0, W4⟩, ?_, ?_, ?_⟩⟩
  all_goals omega
/-- One number's two cells. -/
theorem two_alloc {w : World} {bd : Nat} {dh dl : Int} (h : w.cell? ⟨bd, 0, none⟩ = some (.int .u64 dh) ∧ w.cell? ⟨bd, 1, none⟩ = some (.int .u64 dl)) (o : Obj) :
    (w.alloc o).cell? ⟨bd, 0, none⟩ = some (.int .u64 dh) ∧ (w.alloc o).cell? ⟨bd, 1, none⟩ = some (.int .u64 dl) := at2_alloc h o
theorem two_drew {w : World} {bd : Nat} {dh dl : Int} (h : w.cell? ⟨bd, 0, none⟩ = some (.int .u64 dh) ∧ w.cell? ⟨bd, 1, none⟩ = some (.int .u64 dl)) :
    w.drew.cell? ⟨bd, 0, none⟩ = some (.int .u64 dh) ∧ w.drew.cell? ⟨bd, 1, none⟩ = some (.int .u64 dl) := h
set_option maxRecDepth 100000 in
set_option maxHeartbeats 1600000 in
theorem walk_comm (dh dl eh el : Int) (a : Word dh) (a' : Word dl) (b : Word eh) (b' : Word el) (w : World) :
    Calls Try.prog 4 #[.int .u64 dh, .int .u64 dl, .int .u64 eh, .int .u64 el] w fun e w' => e = .returned (.bool true) ∧ Grown w w' := by
  cases hk : okV dh eh 0 dl el 0
  · go_enter Try.func4, Try.ntmps4
    go_wp2_with (go_at_call 5; refine (sum3_any dh dl eh el 0 0 a a' b b' word0 word0 _).mono ?_; rintro e w' ⟨rfl, rfl⟩)
    go_ret
    exact ⟨rfl, Grown.refl _⟩
  · obtain ⟨ph, pl, j1, j2, j3, j4⟩ := comm_facts dh dl eh el a a' b b' hk
    have HS := sum3_any dh dl eh el 0 0 a a' b b' word0 word0
    rw [hk] at HS
    generalize hiV dh eh 0 dl el 0 = H at *
    generalize loV dl el 0 = L at *
    have HS' : Hid (∀ w, Calls Try.prog 5 #[.int .u64 dh, .int .u64 dl, .int .u64 eh, .int .u64 el, .int .u64 0, .int .u64 0] w fun e w' => e = .returned (.tuple #[.int .u64 H, .int .u64 L, .bool true]) ∧ w = w') := HS
    clear HS hk a a' b b'
    go_enter Try.func4, Try.ntmps4
    go_wp2_with fail
    refine (HS'.out _).mono ?_
    rintro e w' ⟨rfl, rfl⟩
    go_wp2_with fail
    refine (dec_any dh dl _).mono ?_
    rintro e w' ⟨rfl, c1, rfl⟩
    go_wp2_with fail
    refine (dec_any eh el _).mono ?_
    rintro e w' ⟨rfl, c2, rfl⟩
    go_wp2_with fail
    refine (add_rel j1 _).mono ?_
    rintro e w' ⟨rfl, o1, o2, o3, rfl⟩
    go_wp2_with fail
    refine (add_rel j2 _).mono ?_
    rintro e w' ⟨rfl, o4, o5, o6, rfl⟩
    go_wp2_with fail
    have d0 : At2 ((((((((((((w.alloc (.cells c1 26)).alloc (.cells #[.int .u64 dh, .int .u64 dl] 26)).alloc (.cells c2 26)).alloc (.cells #[.int .u64 eh, .int .u64 el] 26)).alloc (.cells o1 26)).alloc (.cells o2 26)).alloc (.cells o3 26)).alloc (.cells #[.int .u64 H, .int .u64 L] 26)).alloc (.cells o4 26)).alloc (.cells o5 26)).alloc (.cells o6 26)).alloc (.cells #[.int .u64 H, .int .u64 L] 26)) (w.heap.size + 1) dh dl :=
      at2_alloc (at2_alloc (at2_alloc (at2_alloc (at2_alloc (at2_alloc (at2_alloc (at2_alloc (at2_alloc (at2_alloc (at2_new _ _ _ (by simp)) _) _) _) _) _) _) _) _) _) _
    have s0 : At2 ((((((((((((w.alloc (.cells c1 26)).alloc (.cells #[.int .u64 dh, .int .u64 dl] 26)).alloc (.cells c2 26)).alloc (.cells #[.int .u64 eh, .int .u64 el] 26)).alloc (.cells o1 26)).alloc (.cells o2 26)).alloc (.cells o3 26)).alloc (.cells #[.int .u64 H, .int .u64 L] 26)).alloc (.cells o4 26)).alloc (.cells o5 26)).alloc (.cells o6 26)).alloc (.cells #[.int .u64 H, .int .u64 L] 26)) (w.heap.size + 1 + 1 + 1 + 1 + 1 + 1 + 1) H L :=
      at2_alloc (at2_alloc (at2_alloc (at2_alloc (at2_new _ _ _ (by simp)) _) _) _) _
    have t0 : At2 ((((((((((((w.alloc (.cells c1 26)).alloc (.cells #[.int .u64 dh, .int .u64 dl] 26)).alloc (.cells c2 26)).alloc (.cells #[.int .u64 eh, .int .u64 el] 26)).alloc (.cells o1 26)).alloc (.cells o2 26)).alloc (.cells o3 26)).alloc (.cells #[.int .u64 H, .int .u64 L] 26)).alloc (.cells o4 26)).alloc (.cells o5 26)).alloc (.cells o6 26)).alloc (.cells #[.int .u64 H, .int .u64 L] 26)) (w.heap.size + 1 + 1 + 1 + 1 + 1 + 1 + 1 + 1 + 1 + 1 + 1) H L :=
      at2_new _ _ _ (by simp)
    have hg : Grown w ((((((((((((w.alloc (.cells c1 26)).alloc (.cells #[.int .u64 dh, .int .u64 dl] 26)).alloc (.cells c2 26)).alloc (.cells #[.int .u64 eh, .int .u64 el] 26)).alloc (.cells o1 26)).alloc (.cells o2 26)).alloc (.cells o3 26)).alloc (.cells #[.int .u64 H, .int .u64 L] 26)).alloc (.cells o4 26)).alloc (.cells o5 26)).alloc (.cells o6 26)).alloc (.cells #[.int .u64 H, .int .u64 L] 26)) :=
      (((((((((((((Grown.refl w).alloc _ _).alloc _ _).alloc _ _).alloc _ _).alloc _ _).alloc _ _).alloc _ _).alloc _ _).alloc _ _).alloc _ _).alloc _ _).alloc _ _)
    generalize (((((((((((w.alloc (.cells c1 26)).alloc (.cells #[.int .u64 dh, .int .u64 dl] 26)).alloc (.cells c2 26)).alloc (.cells #[.int .u64 eh, .int .u64 el] 26)).alloc (.cells o1 26)).alloc (.cells o2 26)).alloc (.cells o3 26)).alloc (.cells #[.int .u64 H, .int .u64 L] 26)).alloc (.cells o4 26)).alloc (.cells o5 26)).alloc (.cells o6 26)).alloc (.cells #[.int .u64 H, .int .u64 L] 26) = W at *
    generalize w.heap.size + 1 + 1 + 1 + 1 + 1 + 1 + 1 + 1 + 1 + 1 + 1 = bt at *
    generalize w.heap.size + 1 + 1 + 1 + 1 + 1 + 1 + 1 = bs at *
    generalize w.heap.size + 1 + 1 + 1 = be at *
    generalize w.heap.size + 1 = bd at *
    go_cut [16] from 40 (fun v w' => ∃ b, v = .pointer (some ⟨b, 0, none⟩) ∧ At2 w' b H L ∧ At2 w' bs H L ∧ At2 w' bt H L ∧ Grown w w')
    case first =>
      have hS : W.cell? ⟨bd, 0, none⟩ = some (.int .u64 dh) ∧ W.cell? ⟨bd, 1, none⟩ = some (.int .u64 dl) := d0
      have DD : Hid (At2 W bs H L ∧ At2 W bt H L) := ⟨s0, t0⟩
      have HG : Hid (Grown w W) := hg
      clear d0 s0 t0 hg j1 j2
      go_region_held3 (fun w' => w'.cell? ⟨bd, 0, none⟩ = some (.int .u64 dh) ∧ w'.cell? ⟨bd, 1, none⟩ = some (.int .u64 dl)) (repeat (first | assumption | (with_reducible refine two_alloc ?_ _) | (with_reducible refine two_drew ?_)))
        (first
          | (go_at_call 7; refine (add_rel (by assumption) _).mono ?_; rintro e w' ⟨rfl, q1, q2, q3, rfl⟩)
          | (go_at_call 6; refine (dec_any _ _ _).mono ?_; rintro e w' ⟨rfl, q4, rfl⟩))
      all_goals go_wp2_with fail
      all_goals go_meet
      all_goals exact ⟨_, rfl, (by repeat (first | ((with_reducible refine at2_new _ _ _ ?_); (simp; done)) | (with_reducible refine at2_alloc ?_ _) | (with_reducible refine at2_drew ?_))), (by repeat (first | (with_reducible exact DD.out.1) | (with_reducible refine at2_alloc ?_ _) | (with_reducible refine at2_drew ?_))), (by repeat (first | (with_reducible exact DD.out.2) | (with_reducible refine at2_alloc ?_ _) | (with_reducible refine at2_drew ?_))), (by repeat (first | (with_reducible exact HG.out) | (with_reducible refine Grown.drew ?_) | (with_reducible refine Grown.alloc ?_ _ _)))⟩
    case rest =>
      clear d0 s0 t0 hg j1 j2 j3 j4
      obtain ⟨bu, rfl, u0, s0, t0, hg⟩ := hcut
      obtain ⟨s1, s2⟩ := s0
      obtain ⟨t1, t2⟩ := t0
      obtain ⟨v1, v2⟩ := u0
      have HG : Hid (Grown w wc) := hg
      clear hg
      have hs0 : bs < wc.heap.size := World.block_lt_of_cell? wc _ s1
      have ht0 : bt < wc.heap.size := World.block_lt_of_cell? wc _ t1
      have hu0 : bu < wc.heap.size := World.block_lt_of_cell? wc _ v1
      have hs1 : bs < wc.heap.size + 1 := by omega
      have ht1 : bt < wc.heap.size + 1 := by omega
      have ht2 : bt < wc.heap.size + 1 + 1 := by omega
      have ht3 : bt < wc.heap.size + 1 + 1 + 1 := by omega
      have hu1 : bu < wc.heap.size + 1 := by omega
      have hu2 : bu < wc.heap.size + 1 + 1 := by omega
      have hu3 : bu < wc.heap.size + 1 + 1 + 1 := by omega
      have hu4 : bu < wc.heap.size + 1 + 1 + 1 + 1 := by omega
      have hu5 : bu < wc.heap.size + 1 + 1 + 1 + 1 + 1 := by omega
      go_wp2_with fail
      refine (hi_any H L _).mono ?_
      rintro e w' ⟨rfl, p0, rfl⟩
      go_wp2_with fail
      refine (lo_any H L _).mono ?_
      rintro e w' ⟨rfl, p1, rfl⟩
      go_wp2_with fail
      refine (hi_any H L _).mono ?_
      rintro e w' ⟨rfl, p2, rfl⟩
      go_wp2_with fail
      refine (lo_any H L _).mono ?_
      rintro e w' ⟨rfl, p3, rfl⟩
      go_wp2_with fail
      refine (hi_any H L _).mono ?_
      rintro e w' ⟨rfl, p4, rfl⟩
      go_wp2_with fail
      refine (lo_any H L _).mono ?_
      rintro e w' ⟨rfl, p5, rfl⟩
      go_wp2_with fail
      go_ret
      exact ⟨rfl, (((((HG.out.alloc _ _).alloc _ _).alloc _ _).alloc _ _).alloc _ _).alloc _ _⟩
end Go.Proofs.Qxb6628460a
