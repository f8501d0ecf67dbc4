import Derived.Test.Qxb6604022aDoorProofs
import Derived.Test.Qxb6604022aDoorCbor
import Derived.Test.Qxb6604022aDoorTie
import Derived.Test.Qxb6604022aDoorCards
import Derived.SevenTiedAt
namespace Go.Proofs.Qxb6604022aDoor
open Go

theorem cbor_spec4 : CborSpec := fun vb vd lb ld pos w hb hd hlb hld hp1 hp2 => by
  by_cases hr : pos < 0 ∨ (lb.length : Int) ≤ pos
  · obtain ⟨a1, n1, c1, rfl, e1⟩ := hb.shape
    obtain ⟨a2, n2, c2, rfl, _⟩ := hd.shape
    have e1 : n1 = lb.length := e1.out
    subst e1
    exact cbor_out a1 a2 lb.length c1 n2 c2 pos hr hp1 hp2 hlb w.heap.size lb ld w
  · obtain ⟨pn, rfl⟩ : ∃ pn : Nat, pos = (pn : Int) := ⟨pos.toNat, by omega⟩
    have h0 : lb ≠ [] := by rintro rfl; apply hr; simp
    obtain ⟨g, rfl, hg, hby⟩ := hb.some h0
    exact cbor_in w.heap.size g 0 lb.length lb.length pn lb ld vd w rfl hlb (by omega) hby hg (Nat.le_refl _) hd hld

theorem card_holds4 : Rows.FnReaderAppendJSONReadsInPlaceCardSaid :=
  Claim7.holds_tied_plain_at .later [] [.data, .data, .data] true (true, "80836a7e5dbaf32591f6f4c5f8681ac10ebbae54487172f5172a3827f1cf7f70") false
    (row_holds4 cbor_spec4) (fun _ h => by cases h) (by kernel_rfl) (fun _ h => by cases h) fnReaderAppendJSONReadsInPlace_row_tie rfl ⟨rfl, rfl⟩ (by kernel_rfl) rfl
    (fun f fn hf hfn => by
      obtain rfl : f = 4 := Option.some.inj ((show Tryd.prog.funcNamed Rows.fnReaderAppendJSONReadsInPlaceRow.func = some 4 by kernel_rfl).symm.trans hf) |>.symm
      obtain rfl : fn = Tryd.f4 := (Option.some.inj (Tryd.func4.symm.trans hfn)).symm
      exact ⟨by kernel_rfl, fun j t ht => by
        rw [Tryd.params4] at ht
        have hm : t ∈ [22, 3, 22] := by simpa using Array.mem_of_getElem? ht
        have hall : ([22, 3, 22].all fun u => !Tryd.prog.wantsStandIn u) = true := by kernel_rfl
        exact (show Tryd.prog.wantsStandIn t = false by simpa using List.all_eq_true.1 hall t hm)⟩)
    (by kernel_rfl)
end Go.Proofs.Qxb6604022aDoor
