import Derived.Test.Qxb6628460aAdd
import Derived.Deep.Cut
import Derived.Deep.RegionHeld
namespace Go.Proofs.Qxb6628460a
open Go.RowKit
/-- What zzSum3's ok gives. -/
theorem assoc_facts (dh dl eh el fh fl : Int) (a : Word dh) (a' : Word dl) (b : Word eh) (b' : Word el) (c : Word fh) (c' : Word fl) (hk : okV dh eh fh dl el fl = true) :
    ∃ ph pl qh ql : Int, Adds dh dl eh el ph pl ∧ Adds ph pl fh fl (hiV dh eh fh dl el fl) (loV dl el fl) ∧ Adds eh el fh fl qh ql ∧ Adds dh dl qh ql (hiV dh eh fh dl el fl) (loV dl el fl) := by
  have hh := high_eq dh eh fh dl el fl a b c a' b' c'
  have hl := low_eq dl el fl a' b' c'
  have hb : (dh + eh + fh + (dl + el + fl) / 18446744073709551616) / 18446744073709551616 = 0 := by
    rw [← hh.2]
    simpa [okV] using hk
  rw [hh.1, hl.1]
  have W1 := a; have W2 := a'; have W3 := b; have W4 := b'; have W5 := c; have W6 := c'
  obtain ⟨_, _⟩ := a; obtain ⟨_, _⟩ := b; obtain ⟨_, _⟩ := c
  obtain ⟨_, _⟩ := a'; obtain ⟨_, _⟩ := b'; obtain ⟨_, _⟩ := c'
  refine ⟨dh + eh + (dl + el) / 18446744073709551616, (dl + el) % 18446744073709551616, eh + fh + (el + fl) / 18446744073709551616, (el + fl) % 18446744073709551616, ⟨⟨W1, W2, W3, W4⟩, ?_, rfl, rfl⟩, ⟨⟨⟨?_, ?_⟩, ⟨?_, ?_⟩, W5, W6⟩, ?_, ?_, ?_⟩, ⟨⟨W3, W4, W5, W6⟩, ?_, rfl, rfl⟩, ⟨⟨W1, W2, ⟨?_, ?_⟩, ⟨?_, ?_⟩⟩, ?_, ?_, ?_⟩⟩
  all_goals omega
/-- Block b holds the two words h, l. -/
def At2 (w : World) (b : Nat) (h l : Int) : Prop := w.cell? ⟨b, 0, none⟩ = some (.int .u64 h) ∧ w.cell? ⟨b, 1, none⟩ = some (.int .u64 l)
theorem at2_new (w : World) (h l : Int) {b : Nat} (hb : b = w.heap.size) : At2 (w.alloc (.cells #[.int .u64 h, .int .u64 l] 26)) b h l := by
  subst hb
  exact ⟨by rw [World.cell?_alloc_at _ _ _ _ rfl]; rfl, by rw [World.cell?_alloc_at _ _ _ _ rfl]; rfl⟩
theorem at2_alloc {w : World} {b : Nat} {h l : Int} (k : At2 w b h l) (o : Obj) : At2 (w.alloc o) b h l :=
  ⟨by rw [World.cell?_alloc_lt _ _ _ (World.block_lt_of_cell? w _ k.1)]; exact k.1, by rw [World.cell?_alloc_lt _ _ _ (World.block_lt_of_cell? w _ k.2)]; exact k.2⟩
/-- The three numbers' six cells. -/
theorem six_of {w : World} {bd be bf : Nat} {dh dl eh el fh fl : Int} (a : At2 w bd dh dl) (b : At2 w be eh el) (c : At2 w bf fh fl) :
    w.cell? ⟨bd, 0, none⟩ = some (.int .u64 dh) ∧ w.cell? ⟨bd, 1, none⟩ = some (.int .u64 dl) ∧ w.cell? ⟨be, 0, none⟩ = some (.int .u64 eh) ∧ w.cell? ⟨be, 1, none⟩ = some (.int .u64 el) ∧ w.cell? ⟨bf, 0, none⟩ = some (.int .u64 fh) ∧ w.cell? ⟨bf, 1, none⟩ = some (.int .u64 fl) :=
  ⟨a.1, a.2, b.1, b.2, c.1, c.2⟩
theorem six_alloc {w : World} {bd be bf : Nat} {dh dl eh el fh fl : Int}
    (h : w.cell? ⟨bd, 0, none⟩ = some (.int .u64 dh) ∧ w.cell? ⟨bd, 1, none⟩ = some (.int .u64 dl) ∧ w.cell? ⟨be, 0, none⟩ = some (.int .u64 eh) ∧ w.cell? ⟨be, 1, none⟩ = some (.int .u64 el) ∧ w.cell? ⟨bf, 0, none⟩ = some (.int .u64 fh) ∧ w.cell? ⟨bf, 1, none⟩ = some (.int .u64 fl)) (o : Obj) :
    (w.alloc o).cell? ⟨bd, 0, none⟩ = some (.int .u64 dh) ∧ (w.alloc o).cell? ⟨bd, 1, none⟩ = some (.int .u64 dl) ∧ (w.alloc o).cell? ⟨be, 0, none⟩ = some (.int .u64 eh) ∧ (w.alloc o).cell? ⟨be, 1, none⟩ = some (.int .u64 el) ∧ (w.alloc o).cell? ⟨bf, 0, none⟩ = some (.int .u64 fh) ∧ (w.alloc o).cell? ⟨bf, 1, none⟩ = some (.int .u64 fl) :=
  six_of (at2_alloc ⟨h.1, h.2.1⟩ o) (at2_alloc ⟨h.2.2.1, h.2.2.2.1⟩ o) (at2_alloc ⟨h.2.2.2.2.1, h.2.2.2.2.2⟩ o)
theorem six_drew {w : World} {bd be bf : Nat} {dh dl eh el fh fl : Int}
    (h : w.cell? ⟨bd, 0, none⟩ = some (.int .u64 dh) ∧ w.cell? ⟨bd, 1, none⟩ = some (.int .u64 dl) ∧ w.cell? ⟨be, 0, none⟩ = some (.int .u64 eh) ∧ w.cell? ⟨be, 1, none⟩ = some (.int .u64 el) ∧ w.cell? ⟨bf, 0, none⟩ = some (.int .u64 fh) ∧ w.cell? ⟨bf, 1, none⟩ = some (.int .u64 fl)) :
    w.drew.cell? ⟨bd, 0, none⟩ = some (.int .u64 dh) ∧ w.drew.cell? ⟨bd, 1, none⟩ = some (.int .u64 dl) ∧ w.drew.cell? ⟨be, 0, none⟩ = some (.int .u64 eh) ∧ w.drew.cell? ⟨be, 1, none⟩ = some (.int .u64 el) ∧ w.drew.cell? ⟨bf, 0, none⟩ = some (.int .u64 fh) ∧ w.drew.cell? ⟨bf, 1, none⟩ = some (.int .u64 fl) := h
theorem at2_drew {w : World} {b : Nat} {h l : Int} (k : At2 w b h l) : At2 w.drew b h l := k
set_option maxRecDepth 100000 in
set_option maxHeartbeats 1600000 in
theorem walk_assoc (dh dl eh el fh fl : Int) (a : Word dh) (a' : Word dl) (b : Word eh) (b' : Word el) (c : Word fh) (c' : Word fl) (w : World) :
    Calls Try.prog 3 #[.int .u64 dh, .int .u64 dl, .int .u64 eh, .int .u64 el, .int .u64 fh, .int .u64 fl] w fun e w' => e = .returned (.bool true) ∧ Grown w w' := by
  cases hk : okV dh eh fh dl el fl
  · go_enter Try.func3, Try.ntmps3
    go_wp2_with (go_at_call 5; refine (sum3_any dh dl eh el fh fl a a' b b' c c' _).mono ?_; rintro e w' ⟨rfl, rfl⟩)
    go_ret
    exact ⟨rfl, Grown.refl _⟩
  · obtain ⟨ph, pl, qh, ql, j1, j2, j3, j4⟩ := assoc_facts dh dl eh el fh fl a a' b b' c c' hk
    have HS := sum3_any dh dl eh el fh fl a a' b b' c c'
    rw [hk] at HS
    generalize hiV dh eh fh dl el fl = H at *
    generalize loV dl el fl = L at *
    have HS' : Hid (∀ w, Calls Try.prog 5 #[.int .u64 dh, .int .u64 dl, .int .u64 eh, .int .u64 el, .int .u64 fh, .int .u64 fl] w fun e w' => e = .returned (.tuple #[.int .u64 H, .int .u64 L, .bool true]) ∧ w = w') := HS
    clear HS hk a a' b b' c c'
    go_enter Try.func3, Try.ntmps3
    go_wp2_with fail
    refine (HS'.out _).mono ?_
    rintro e w' ⟨rfl, rfl⟩
    go_wp2_with fail
    refine (dec_any dh dl _).mono ?_
    rintro e w' ⟨rfl, c1, rfl⟩
    go_wp2_with fail
    refine (dec_any eh el _).mono ?_
    rintro e w' ⟨rfl, c2, rfl⟩
    go_wp2_with fail
    refine (dec_any fh fl _).mono ?_
    rintro e w' ⟨rfl, c3, rfl⟩
    go_wp2_with fail
    have d0 : At2 ((((((w.alloc (.cells c1 26)).alloc (.cells #[.int .u64 dh, .int .u64 dl] 26)).alloc (.cells c2 26)).alloc (.cells #[.int .u64 eh, .int .u64 el] 26)).alloc (.cells c3 26)).alloc (.cells #[.int .u64 fh, .int .u64 fl] 26)) (w.heap.size + 1) dh dl :=
      at2_alloc (at2_alloc (at2_alloc (at2_alloc (at2_new _ _ _ (by simp)) _) _) _) _
    have e0 : At2 ((((((w.alloc (.cells c1 26)).alloc (.cells #[.int .u64 dh, .int .u64 dl] 26)).alloc (.cells c2 26)).alloc (.cells #[.int .u64 eh, .int .u64 el] 26)).alloc (.cells c3 26)).alloc (.cells #[.int .u64 fh, .int .u64 fl] 26)) (w.heap.size + 1 + 1 + 1) eh el :=
      at2_alloc (at2_alloc (at2_new _ _ _ (by simp)) _) _
    have f0 : At2 ((((((w.alloc (.cells c1 26)).alloc (.cells #[.int .u64 dh, .int .u64 dl] 26)).alloc (.cells c2 26)).alloc (.cells #[.int .u64 eh, .int .u64 el] 26)).alloc (.cells c3 26)).alloc (.cells #[.int .u64 fh, .int .u64 fl] 26)) (w.heap.size + 1 + 1 + 1 + 1 + 1) fh fl :=
      at2_new _ _ _ (by simp)
    have hg : Grown w ((((((w.alloc (.cells c1 26)).alloc (.cells #[.int .u64 dh, .int .u64 dl] 26)).alloc (.cells c2 26)).alloc (.cells #[.int .u64 eh, .int .u64 el] 26)).alloc (.cells c3 26)).alloc (.cells #[.int .u64 fh, .int .u64 fl] 26)) :=
      (((((((Grown.refl w).alloc _ _).alloc _ _).alloc _ _).alloc _ _).alloc _ _).alloc _ _)
    generalize (((((w.alloc (.cells c1 26)).alloc (.cells #[.int .u64 dh, .int .u64 dl] 26)).alloc (.cells c2 26)).alloc (.cells #[.int .u64 eh, .int .u64 el] 26)).alloc (.cells c3 26)).alloc (.cells #[.int .u64 fh, .int .u64 fl] 26) = W at *
    generalize w.heap.size + 1 + 1 + 1 + 1 + 1 = bf at *
    generalize w.heap.size + 1 + 1 + 1 = be at *
    generalize w.heap.size + 1 = bd at *
    go_cut [19] from 43 (fun v w' => ∃ b, v = .pointer (some ⟨b, 0, none⟩) ∧ At2 w' b H L ∧ At2 w' bd dh dl ∧ At2 w' be eh el ∧ At2 w' bf fh fl ∧ Grown w w')
    case first =>
      have hS := six_of d0 e0 f0
      have DD : Hid (At2 W bd dh dl ∧ At2 W be eh el ∧ At2 W bf fh fl) := ⟨d0, e0, f0⟩
      clear d0 e0 f0
      have HG : Hid (Grown w W) := hg
      clear hg
      go_region_held3 (fun w' => w'.cell? ⟨bd, 0, none⟩ = some (.int .u64 dh) ∧ w'.cell? ⟨bd, 1, none⟩ = some (.int .u64 dl) ∧ w'.cell? ⟨be, 0, none⟩ = some (.int .u64 eh) ∧ w'.cell? ⟨be, 1, none⟩ = some (.int .u64 el) ∧ w'.cell? ⟨bf, 0, none⟩ = some (.int .u64 fh) ∧ w'.cell? ⟨bf, 1, none⟩ = some (.int .u64 fl)) (repeat (first | assumption | (with_reducible refine six_alloc ?_ _) | (with_reducible refine six_drew ?_)))
        ((go_at_call 7; refine (add_rel (by assumption) _).mono ?_; rintro e w' ⟨rfl, o1, o2, o3, rfl⟩))
      all_goals go_wp2_with fail
      all_goals go_meet
      all_goals exact ⟨_, rfl, (by repeat (first | exact at2_new _ _ _ (by simp) | (with_reducible refine at2_alloc ?_ _) | (with_reducible refine at2_drew ?_))), (by repeat (first | exact DD.out.1 | (with_reducible refine at2_alloc ?_ _) | (with_reducible refine at2_drew ?_))), (by repeat (first | exact DD.out.2.1 | (with_reducible refine at2_alloc ?_ _) | (with_reducible refine at2_drew ?_))), (by repeat (first | exact DD.out.2.2 | (with_reducible refine at2_alloc ?_ _) | (with_reducible refine at2_drew ?_))), (by repeat (first | exact HG.out | apply Grown.drew | apply Grown.alloc))⟩
    case rest =>
      clear d0 e0 f0 hg j1 j2
      obtain ⟨b1, rfl, l0, d0, e0, f0, hg⟩ := hcut
      go_wp2_with fail
      go_cut [20] from 43 (fun v w' => ∃ b, v = .pointer (some ⟨b, 0, none⟩) ∧ At2 w' b H L ∧ At2 w' b1 H L ∧ Grown w w')
      case first =>
        have hS := six_of d0 e0 f0
        have DD : Hid (At2 wc b1 H L) := l0
        clear d0 e0 f0 l0
        have HG : Hid (Grown w wc) := hg
        clear hg
        go_region_held3 (fun w' => w'.cell? ⟨bd, 0, none⟩ = some (.int .u64 dh) ∧ w'.cell? ⟨bd, 1, none⟩ = some (.int .u64 dl) ∧ w'.cell? ⟨be, 0, none⟩ = some (.int .u64 eh) ∧ w'.cell? ⟨be, 1, none⟩ = some (.int .u64 el) ∧ w'.cell? ⟨bf, 0, none⟩ = some (.int .u64 fh) ∧ w'.cell? ⟨bf, 1, none⟩ = some (.int .u64 fl)) (repeat (first | assumption | (with_reducible refine six_alloc ?_ _) | (with_reducible refine six_drew ?_)))
          ((go_at_call 7; refine (add_rel (by assumption) _).mono ?_; rintro e w' ⟨rfl, o1, o2, o3, rfl⟩))
        all_goals go_wp2_with fail
        all_goals go_meet
        all_goals exact ⟨_, rfl, (by repeat (first | exact at2_new _ _ _ (by simp) | (with_reducible refine at2_alloc ?_ _) | (with_reducible refine at2_drew ?_))), (by repeat (first | exact DD.out | (with_reducible refine at2_alloc ?_ _) | (with_reducible refine at2_drew ?_))), (by repeat (first | exact HG.out | apply Grown.drew | apply Grown.alloc))⟩
      case rest =>
        clear d0 e0 f0 l0 hg j3 j4
        obtain ⟨b2, rfl, r0, l0, hg⟩ := hcut
        obtain ⟨r1, r2⟩ := r0
        obtain ⟨l1, l2⟩ := l0
        have HG : Hid (Grown w wc) := hg
        clear hg
        have hb1 : b1 < wc.heap.size := World.block_lt_of_cell? wc _ l1
        have hb2 : b2 < wc.heap.size := World.block_lt_of_cell? wc _ r1
        have hb3 : b1 < wc.heap.size + 1 := by omega
        have hb4 : b2 < wc.heap.size + 1 := by omega
        have hb5 : b2 < wc.heap.size + 1 + 1 := by omega
        go_wp2_with fail
        refine (hi_any H L _).mono ?_
        rintro e w' ⟨rfl, o4, rfl⟩
        go_wp2_with fail
        refine (lo_any H L _).mono ?_
        rintro e w' ⟨rfl, o5, rfl⟩
        go_wp2_with fail
        refine (hi_any H L _).mono ?_
        rintro e w' ⟨rfl, o6, rfl⟩
        go_wp2_with fail
        refine (lo_any H L _).mono ?_
        rintro e w' ⟨rfl, o7, rfl⟩
        go_wp2_with fail
        go_ret
        exact ⟨rfl, (((HG.out.alloc _ _).alloc _ _).alloc _ _).alloc _ _⟩
end Go.Proofs.Qxb6628460a
