import Derived.Test.Qxb6604022aDoorEsc
import Derived.Deep.RegionLaw
namespace Go.Proofs.Qxb6604022aDoor
open Go.RowKit

/-- APPEND OF BYTES, AS ONE STEP OF A REGION THAT DRAWS. -/
theorem step_app {ops : Array Oper} {o : Oper} {a : Act} {w : World} {K : Act → World → Prop} {Q : Exit → Act → World → Prop} {E : Prop} (hgd : o.guard = none) (s x : Operand)
    (ho : o.op = .call { callee := .builtin .append, args := #[s, x], argTypes := #[22, 22] })
    (B : Nat) (v : Value) (bs : List UInt8) (hs : a.eval s = v) (hown : Own B w v bs) (t : List UInt8) (ad : Addr) (m c : Nat) (hm : m = t.length) (hx : a.eval x = .slice (some ad) m c)
    (hc : ∀ j u, (Lib.byteCells t)[j]? = some u → w.cell? (ad.add j) = some u) (hlim : bs.length + t.length ≤ 140737488355328) (hB : B ≤ w.heap.size)
    (h : ∀ v' w', Own B w' v' (bs ++ t) → Kept B w w' → K (a.put o.dst v') w') :
    if Region.wanted o (yielded ops a.tmps) = true then Oper.wp Tryd.prog o a w K Q else E := by
  have hw : Region.wanted o (yielded ops a.tmps) = true := by simp [Region.wanted, hgd]
  rw [if_pos hw]
  exact wp_app s x ho B v bs hs hown t ad m c hm hx hc hlim hB h

theorem and15 (x : Nat) (h : x < 32) : bits BinOp.and IntKind.i32 (x : Int) 15 = ((x % 16 : Nat) : Int) := by
  have key : ∀ y : Fin 32, bits BinOp.and IntKind.i32 ((y.val : Nat) : Int) 15 = ((y.val % 16 : Nat) : Int) := by decide
  exact key ⟨x, h⟩
theorem digs (j : Nat) (h : j < 16) (h' : j < (ByteArray.mk #[48, 49, 50, 51, 52, 53, 54, 55, 56, 57, 97, 98, 99, 100, 101, 102]).size) : (ByteArray.mk #[48, 49, 50, 51, 52, 53, 54, 55, 56, 57, 97, 98, 99, 100, 101, 102])[j]'h' = hexd j := by
  have key : ∀ y : Fin 16, (#[48, 49, 50, 51, 52, 53, 54, 55, 56, 57, 97, 98, 99, 100, 101, 102] : Array UInt8)[y.val]'(y.isLt) = hexd y.val := by decide
  exact key ⟨j, h⟩

set_option maxHeartbeats 4000000 in
theorem appEsc_core (B : Nat) (v : Value) (bs : List UInt8) (m j3 j4 : Nat) (x3 x4 : UInt8) (w : World) (_hm : m < 32)
    (e1 : bits BinOp.and IntKind.i32 ((m : Int) / 4096) 15 = 0) (e2 : bits BinOp.and IntKind.i32 ((m : Int) / 256) 15 = 0) (e3 : bits BinOp.and IntKind.i32 ((m : Int) / 16) 15 = (j3 : Int)) (e4 : bits BinOp.and IntKind.i32 (m : Int) 15 = (j4 : Int))
    (i3 : (j3 : Int) < 16) (i4 : (j4 : Int) < 16)
    (d3 : ∀ h', (ByteArray.mk #[48, 49, 50, 51, 52, 53, 54, 55, 56, 57, 97, 98, 99, 100, 101, 102])[j3]'h' = x3) (d4 : ∀ h', (ByteArray.mk #[48, 49, 50, 51, 52, 53, 54, 55, 56, 57, 97, 98, 99, 100, 101, 102])[j4]'h' = x4)
    (hown : Own B w v bs) (hB : B ≤ w.heap.size) (hlim : bs.length + 6 ≤ 140737488355328) :
    Calls Tryd.prog 22 #[v, .int .i32 m] w fun e w' => App B w bs [92, 117, 48, 48, x3, x4] e w' := by
  obtain ⟨a, n, cp, rfl, _⟩ := hown.shape
  have HO := hide hown
  clear hown
  go_enter Tryd.func22, Tryd.ntmps22
  go_wp2
  go_region_law (refine step_app rfl (.tmp 5) (.tmp 21) rfl B _ bs rfl (HO.out.alloc _) [92, 117, 48, 48, x3, x4] ⟨_, 0, none⟩ 6 6 rfl rfl (lit_cells _ _ 5) (by simp; omega) (by simp; omega) ?_; intro v1 w1 hown1 hk1)
  all_goals
    go_wp2
    go_ret
    exact app_ret hown1 (Kept.trans ⟨((Below.refl _ _).alloc hB _).drew, ((Lib.OthersKept.refl _ _ _).alloc _).drew⟩ hk1) rfl
theorem appEsc_any (B : Nat) (v : Value) (bs : List UInt8) (m : Nat) (w : World) (hm : m < 32) (hown : Own B w v bs) (hB : B ≤ w.heap.size) (hlim : bs.length + 6 ≤ 140737488355328) :
    Calls Tryd.prog 22 #[v, .int .i32 m] w fun e w' => App B w bs [92, 117, 48, 48, hexd (m / 16), hexd (m % 16)] e w' := by
  refine appEsc_core B v bs m (m / 16) (m % 16) _ _ w hm ?_ ?_ ?_ (and15 m hm) (by omega) (by omega) (fun h' => digs (m / 16) (by omega) h') (fun h' => digs (m % 16) (by omega) h') hown hB hlim
  · rw [show (m : Int) / 4096 = ((0 : Nat) : Int) from by omega, and15 0 (by omega)]; rfl
  · rw [show (m : Int) / 256 = ((0 : Nat) : Int) from by omega, and15 0 (by omega)]; rfl
  · rw [show (m : Int) / 16 = ((m / 16 : Nat) : Int) from by omega, and15 (m / 16) (by omega), Nat.mod_eq_of_lt (by omega)]
end Go.Proofs.Qxb6604022aDoor
