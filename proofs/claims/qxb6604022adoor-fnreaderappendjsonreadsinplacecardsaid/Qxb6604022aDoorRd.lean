import Derived.Test.Qxb6604022aDoorHead
namespace Go.Proofs.Qxb6604022aDoor
open Go.RowKit

/-- Below B nothing has turned; of what is above, no block but rows of bytes and the reader's own. -/
def KeptR (B R : Nat) (w w' : World) : Prop := Below B w w' ∧ Lib.OthersKept 5 (some R) w w'
theorem KeptR.refl (B R : Nat) (w : World) : KeptR B R w w := ⟨Below.refl _ _, Lib.OthersKept.refl _ _ _⟩
theorem KeptR.trans {B R : Nat} {a b c : World} (h : KeptR B R a b) (k : KeptR B R b c) : KeptR B R a c := ⟨h.1.trans k.1, h.2.trans k.2⟩
theorem KeptR.size {B R : Nat} {a b : World} (h : KeptR B R a b) : a.heap.size ≤ b.heap.size := h.1.size
theorem Kept.toR {B : Nat} {a b : World} (h : Kept B a b) (R : Nat) : KeptR B R a b := ⟨h.1, fun k o hk _ ho => h.2 k o hk (by simp) ho⟩
theorem KeptR.of_grown {B R : Nat} {a b : World} (h : a.grownBy b (some R)) (hB : B ≤ a.heap.size) (hR : B ≤ R) : KeptR B R a b :=
  ⟨(Below.refl _ _).grown h hB (fun k hk => by cases hk; exact hR), fun k o hk hb _ => by rw [h.block k (Array.getElem?_eq_some_iff.1 hk).1 hb]; exact hk⟩
theorem KeptR.drewN {B R : Nat} {a b : World} (h : KeptR B R a b) (n : Nat) : KeptR B R a (b.drewN n) := ⟨h.1.trans ⟨rfl, rfl, rfl, Nat.le_refl _, fun _ _ => rfl⟩, fun k o hk hb ho => h.2 k o hk hb ho⟩
theorem Rd.kept {B : Nat} {w w' : World} {R : Nat} {dv : Value} {p : Nat} (h : Rd w R dv p) (hk : Kept B w w') : Rd w' R dv p :=
  hk.2 R _ h (by simp) (fun c fz e => by cases e)
theorem Own.neR {B : Nat} {w : World} {v : Value} {bs : List UInt8} (h : Own B w v bs) {R : Nat} {dv : Value} {p : Nat} (hr : Rd w R dv p) : ∀ k, v.ownBlock = some k → k ≠ R := fun k hk e => by
  subst e
  obtain ⟨c, fz, hc⟩ := h.kind k hk
  rw [hr] at hc
  cases hc
theorem Own.grown {B : Nat} {w w' : World} {v : Value} {bs : List UInt8} (h : Own B w v bs) {R : Nat} (hg : w.grownBy w' (some R)) (hne : ∀ k, v.ownBlock = some k → k ≠ R) : Own B w' v bs := by
  exact h.keep fun k hk => hg.block k (h.lt k hk) (fun e2 => hne k hk (Option.some.inj e2))
theorem Bytes.keptR {B R : Nat} {w w' : World} {b o : Nat} {l : List UInt8} (h : Bytes w b o l) (hk : KeptR B R w w') (hb : b < B) : Bytes w' b o l := h.below hk.1 hb

/-- What a call on the reader leaves. -/
def RApp (B R : Nat) (dv : Value) (w : World) (bs t : List UInt8) (q : Nat) (e : Ending) (w' : World) : Prop := ∃ v', e = .returned v' ∧ Own B w' v' (bs ++ t) ∧ Rd w' R dv q ∧ KeptR B R w w'

theorem head_c (R bd off cap p : Nat) (d : List UInt8) (mj arg hn : Nat) (w : World) (hr : Rd w R (.slice (some ⟨bd, off, none⟩) d.length cap) p) (hl : d.length ≤ 1048576) (hlc : d.length ≤ cap) (hb : Bytes w bd off d) (hRb : bd ≠ R) (hh : head (d.drop p) = some (mj, arg, hn)) :
    Calls Tryd.prog 15 #[.pointer (some ⟨R, 0, none⟩)] w fun e w' => e = .returned (.tuple #[.int .u8 ((mj * 32 : Nat) : Int), .int .u64 (arg : Int)]) ∧ Rd w' R (.slice (some ⟨bd, off, none⟩) d.length cap) (p + hn) ∧ w.grownBy w' (some R) := by
  have hp : p < d.length := by
    apply Classical.byContradiction
    intro h
    rw [List.drop_of_length_le (by omega)] at hh
    simp [head] at hh
  have hd : d.drop p = d[p] :: d.drop (p + 1) := List.drop_eq_getElem_cons hp
  have hx := UInt8.toNat_lt d[p]
  have hc := hb p hp
  rw [hd, head_cons] at hh
  split at hh
  · simp only [Option.some.injEq, Prod.mk.injEq] at hh
    obtain ⟨rfl, rfl, rfl⟩ := hh
    exact head_short R bd off d.length cap p d[p].toNat w hr hp hl hx hc ‹_›
  · split at hh
    · split at hh
      · simp only [Option.some.injEq, Prod.mk.injEq] at hh
        obtain ⟨rfl, rfl, rfl⟩ := hh
        rename_i h24 h27 hlen
        rw [List.length_drop] at hlen
        have hcase : (d[p].toNat % 32 = 24 ∧ 2 ^ (d[p].toNat % 32 - 24) = 1) ∨ (d[p].toNat % 32 = 25 ∧ 2 ^ (d[p].toNat % 32 - 24) = 2) ∨ (d[p].toNat % 32 = 26 ∧ 2 ^ (d[p].toNat % 32 - 24) = 4) ∨ (d[p].toNat % 32 = 27 ∧ 2 ^ (d[p].toNat % 32 - 24) = 8) := by
          have : d[p].toNat % 32 = 24 ∨ d[p].toNat % 32 = 25 ∨ d[p].toNat % 32 = 26 ∨ d[p].toNat % 32 = 27 := by omega
          rcases this with h | h | h | h <;> simp [h]
        have := head_long R bd off d.length cap p d[p].toNat (d[p].toNat % 32) (2 ^ (d[p].toNat % 32 - 24)) hcase ((d.drop (p + 1)).take (2 ^ (d[p].toNat % 32 - 24))) w hr (by omega) hl hlc hx hc rfl (by rw [List.length_take, List.length_drop]; omega) (fun i hi => by
          have hi2 : p + 1 + i < d.length := by rw [List.length_take, List.length_drop] at hi; omega
          rw [show off + (p + 1) + i = off + (p + 1 + i) from by omega, hb (p + 1 + i) hi2]
          simp) hRb
        rw [show p + (1 + 2 ^ (d[p].toNat % 32 - 24)) = p + 1 + 2 ^ (d[p].toNat % 32 - 24) from by omega]
        exact this
      · cases hh
    · cases hh
end Go.Proofs.Qxb6604022aDoor
