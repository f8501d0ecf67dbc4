import Derived.Test.Qxb6604022aDoorJson
namespace Go.Proofs.Qxb6604022aDoor
open Go.RowKit

set_option maxHeartbeats 1000000 in
/-- ZZReaderAppendJSON. -/
theorem zz_any (f B bd off cap p : Nat) (d : List UInt8) (v : Value) (bs : List UInt8) (w : World) (t : List UInt8) (n : Nat) (hi : item f (d.drop p) = some (t, n)) (hown : Own B w v bs) (hby : Bytes w bd off d) (hbd : bd < B) (hB : B ≤ w.heap.size)
    (hl : d.length ≤ 1048576) (hlc : d.length ≤ cap) (hlim : bs.length + 24 * (d.length - p) + 60 ≤ 140737488355328) (htab : Lib.TabBelow Tryd.prog B w powName .u64 Lib.pow10Tab) (dl : Nat) (hdl : dl = d.length) :
    Calls Tryd.prog 8 #[.slice (some ⟨bd, off, none⟩) dl cap, .int .i64 p, v] w fun e w' => ∃ v', e = .returned (.tuple #[v', .int .i64 ((p + n : Nat) : Int)]) ∧ Own B w' v' (bs ++ t) ∧ Below B w w' := by
  have HR := hide (reads B w.heap.size bd off cap d hbd hB hl hlc f)
  have HI := hide hi
  have HO := hide hown
  have HBY := hide hby
  have HT := hide htab
  have HD := hide hdl
  obtain ⟨a, m, cp, rfl, _⟩ := hown.shape
  clear hi hown hby htab hdl
  have hd2 : dl ≤ 1048576 := by rw [HD.out]; exact hl
  go_enter Tryd.func8, Tryd.ntmps8
  go_wp2_with fail
  go_at_call 13
  refine (HR.out p _ bs _ t n HI.out (HO.out.alloc _) (by unfold Rd; rw [← HD.out]; exact heap_alloc_new w _) (HBY.out.below ((Below.refl _ _).alloc hB _) hbd) (by simp; omega) hlim (HT.out.on ((Below.refl _ _).alloc hB _))).mono ?_
  rintro e w2 ⟨v2, rfl, ho, hr, hk⟩
  have c1 := hr.c1
  obtain ⟨q, eq⟩ : ∃ q, q = p + n := ⟨_, rfl⟩
  rw [← eq] at c1
  have HQ : Hid (∀ k, ∃ v', Ending.returned (.tuple #[v2, .int .i64 (q : Int)]) = .returned (.tuple #[v', .int .i64 ((p + n : Nat) : Int)]) ∧ Own B (w2.drewN k) v' (bs ++ t) ∧ Below B w (w2.drewN k)) := hide (fun k => ⟨v2, by rw [eq], ho.drewN k, (((Below.refl _ _).alloc hB _).trans hk.1).trans ⟨rfl, rfl, rfl, Nat.le_refl _, fun _ _ => rfl⟩⟩)
  clear ho hr hk eq
  go_wp2_with (go_quiet (fail))
  go_ret2
  exact HQ.out _
end Go.Proofs.Qxb6604022aDoor
