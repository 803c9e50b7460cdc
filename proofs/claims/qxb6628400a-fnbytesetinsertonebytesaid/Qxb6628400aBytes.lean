import Derived.Test.Qxb6628400aCutWalk
namespace Go.Proofs.Qxb6628400a
open Go.RowKit
theorem info5 : (Try.prog.info? 5).map (fun i => (i.zero, i.size, i.bytes)) = some (some (.int .u8 0), 1, 1) := by kernel_rfl
def bytesV (l : List UInt8) : List Value := l.map fun b => Value.int .u8 b.toNat
theorem bytesV_snoc (l : List UInt8) (c : UInt8) : bytesV (l ++ [c]) = bytesV l ++ [Value.int .u8 c.toNat] := by simp [bytesV]
theorem bytesV_length (l : List UInt8) : (bytesV l).length = l.length := by simp [bytesV]

theorem foldl_push : ∀ (bs : List UInt8) (acc : ByteArray), ((bs.map fun b => (b.toNat : Int)).foldl (fun r n => r.push (UInt8.ofNat n.toNat)) acc) = acc ++ ⟨bs.toArray⟩
  | [], acc => by
    apply ByteArray.ext
    simp
  | b :: bs, acc => by
    simp only [List.map_cons, List.foldl_cons, Int.toNat_natCast, UInt8.ofNat_toNat]
    rw [foldl_push bs]
    apply ByteArray.ext
    apply Array.ext'
    simp

/-- 'string(buf)', buf a slice of the call's own. -/
theorem wpList_bytes_string {P : Program} {w : World} {ops : Array Oper} {rest : List Oper} {o : Oper} {a : Act} {Q : Exit → Act → World → Prop} (hgd : o.guard = none) (src dst : TypeId) (x : Operand) (ho : o.op = .convert src dst x)
    (e : TypeId) (hs : P.underlying src = some (.slice e)) (he : P.underlying e = some (.int .u8)) (hd : P.underlying dst = some .string)
    (base g n cap : Nat) (bs : List UInt8) (hx : a.eval x = .slice (some ⟨g, 0, none⟩) n cap) (hown : w.ownsRow base e 1 (.slice (some ⟨g, 0, none⟩) n cap) n (bytesV bs))
    (h : wpList P ops Q rest (a.put o.dst (.string ⟨bs.toArray⟩)) w) : wpList P ops Q (o :: rest) a w := by
  refine wpList_plain hgd fun K hK => ?_
  obtain ⟨hl, hv | ⟨g', cap', cur, hv, _, hh, _, _, hcs, ht⟩⟩ := hown
  · cases hv.1
  · obtain ⟨rfl, rfl⟩ : g = g' ∧ cap = cap' := by simpa using hv
    rw [bytesV_length, Nat.mul_one] at hl
    have hc : (loadCells ⟨g, 0, none⟩ (bytesV bs).length).run P w = .ok (bytesV bs).toArray w := run_loadCells_list (P := P) w ⟨g, 0, none⟩ (bytesV bs) (fun j v hj => by
      have hadd : (⟨g, 0, none⟩ : Addr).add j = ⟨g, j, none⟩ := by unfold Addr.add; split <;> simp_all
      rw [hadd, cell_of_row w g j cur e (0, 0) hh]
      rw [← ht, List.getElem?_take] at hj
      split at hj
      · simpa using hj
      · cases hj)
    rw [bytesV_length, hl] at hc
    have hm : bytesV bs = (bs.map fun b => (b.toNat : Int)).map (Value.int .u8) := by simp [bytesV]
    rw [hm] at hc
    have hrun := run_bytesToString (P := P) w ⟨g, 0, none⟩ n cap _ hc
    rw [foldl_push] at hrun
    have he' : ByteArray.empty ++ ⟨bs.toArray⟩ = (⟨bs.toArray⟩ : ByteArray) := by
      apply ByteArray.ext
      simp
    rw [he'] at hrun
    have hrun2 := (run_convert_bytes_string (P := P) w src dst e (some ⟨g, 0, none⟩) n cap hs he hd).trans hrun
    unfold Oper.wp
    simp only [execOp, ho, hx, Sem.run_bind, hrun2, Result.andThen, Sem.run_pure]
    exact hK _ _ h
end Go.Proofs.Qxb6628400a
