import Derived.Test.Qxb6604022aDoorStk
import Derived.Test.Qxb6604022aDoorSmall
import Derived.Test.Qxb6604022aDoorDec
import Derived.Test.Qxb6604022aDoorHead
import Derived.Deep.CutBlock
namespace Go.Proofs.Qxb6604022aDoor
open Go.RowKit

/-- What zzCBORToJSON gives. -/
def CPost (B : Nat) (d bs : List UInt8) (pos : Int) (w : World) (e : Ending) (w' : World) : Prop :=
  Below B w w' ∧ ((∃ v q, e = .returned (.tuple #[v, q, .bool false])) ∨
    ∃ v pn f t n, pos = ((pn : Nat) : Int) ∧ e = .returned (.tuple #[v, .int .i64 ((pn + n : Nat) : Int), .bool true]) ∧ item f (d.drop pn) = some (t, n) ∧ Own B w' v (bs ++ t))

set_option maxRecDepth 20000 in
theorem cbor_out (a1 a2 : Option Addr) (n c m c2 : Nat) (pos : Int) (hp : pos < 0 ∨ (n : Int) ≤ pos) (h1 : -9223372036854775808 ≤ pos) (h2 : pos ≤ 9223372036854775807) (_hn : n ≤ 1048576) (B : Nat) (d bs : List UInt8) (w : World) :
    Calls Tryd.prog 7 #[.slice a1 n c, .int .i64 pos, .slice a2 m c2] w fun e w' => CPost B d bs pos w e w' := by
  go_enter Tryd.func7, Tryd.ntmps7
  by_cases h : pos < 0
  · go_wp2
    go_ret3
    exact ⟨Below.refl _ _, .inl ⟨_, _, rfl⟩⟩
  · have : (n : Int) ≤ pos := by omega
    go_wp2
    go_ret3
    exact ⟨Below.refl _ _, .inl ⟨_, _, rfl⟩⟩

/-- The state of the machine ahead of an item. -/
structure CSt (B : Nat) (d bs : List UInt8) (pos : Nat) (w wr : World) (o s : Value) (p : Nat) (out : List UInt8) (fs : List Fr) : Prop where
  own : Own B wr o out
  stk : Stk B wr s fs
  below : Below B w wr
  good : Good d bs pos out p fs
  len : out.length + fs.length ≤ bs.length + 24 * (p - pos)
  fr : ∀ fr ∈ fs, 1 ≤ fr.left ∧ fr.left < 18446744073709551616
  p1 : pos ≤ p
  p2 : p ≤ d.length

def CRel (B : Nat) (d bs : List UInt8) (pos : Nat) (w : World) (k : Nat) (o q s : Value) (wr : World) : Prop :=
  ∃ p out fs, q = .int .i64 ((p : Nat) : Int) ∧ CSt B d bs pos w wr o s p out fs ∧ k = d.length - p
/-- What the head's reading leaves. -/
def HRel (d : List UInt8) (p : Nat) (x : Nat) (wr : World) (q ar : Value) (wx : World) : Prop :=
  ∃ arg hn : Nat, q = .int .i64 ((p + hn : Nat) : Int) ∧ ar = .int .u64 (arg : Int) ∧ head (d.drop p) = some (x / 32, arg, hn) ∧ wx = wr


/-- The state of the machine, an item just read. -/
structure CDn (B : Nat) (d bs : List UInt8) (pos : Nat) (w wr : World) (o s : Value) (p : Nat) (out : List UInt8) (fs : List Fr) : Prop where
  own : Own B wr o out
  stk : Stk B wr s fs
  below : Below B w wr
  good : GoodA d bs pos out p fs
  len : out.length + fs.length + 2 ≤ bs.length + 24 * (p - pos)
  fr : ∀ fr ∈ fs, 1 ≤ fr.left ∧ fr.left < 18446744073709551616
  p1 : pos ≤ p
  p2 : p ≤ d.length
/-- What the switch leaves. -/
def SRel (B : Nat) (d bs : List UInt8) (pos : Nat) (w : World) (p : Nat) (o q s op : Value) (wx : World) : Prop :=
  ∃ p' out' fs', q = .int .i64 ((p' : Nat) : Int) ∧ p < p' ∧ ((op = .bool true ∧ CSt B d bs pos w wx o s p' out' fs') ∨ (op = .bool false ∧ CDn B d bs pos w wx o s p' out' fs'))
def LRel (B : Nat) (d bs : List UInt8) (pos : Nat) (w : World) (p k : Nat) (o s : Value) (wr : World) : Prop :=
  ∃ out fs, CDn B d bs pos w wr o s p out fs ∧ k = fs.length

/-- A leaf has been read. -/
theorem CSt.leaf {B : Nat} {d bs : List UInt8} {pos : Nat} {w wr : World} {o s : Value} {p : Nat} {out : List UInt8} {fs : List Fr} (h : CSt B d bs pos w wr o s p out fs) {t1 : List UInt8} {n1 : Nat} (hi : item 1 (d.drop p) = some (t1, n1)) {o' : Value} {w' : World} (ho : Own B w' o' (out ++ t1)) (hk : Kept B wr w') :
    CDn B d bs pos w w' o' s (p + n1) (out ++ t1) fs := by
  have hb := item_bnd 1 _ _ _ hi
  rw [List.length_drop] at hb
  have h2 := h.p1
  have h3 := h.len
  exact ⟨ho, h.stk.kept hk, h.below.trans hk.1, h.good.leaf t1 n1 hi, by rw [List.length_append]; omega, h.fr, by omega, by omega⟩
theorem CSt.leaf_rel {B : Nat} {d bs : List UInt8} {pos : Nat} {w wr : World} {o s : Value} {p : Nat} {out : List UInt8} {fs : List Fr} (h : CSt B d bs pos w wr o s p out fs) {t1 : List UInt8} {n1 : Nat} (hi : item 1 (d.drop p) = some (t1, n1)) {o' : Value} {w' : World} (ho : Own B w' o' (out ++ t1)) (hk : Kept B wr w') {q : Value} (hq : q = .int .i64 ((p + n1 : Nat) : Int)) :
    SRel B d bs pos w p o' q s (.bool false) w' := by
  have hb := item_bnd 1 _ _ _ hi
  exact ⟨p + n1, _, _, hq, by omega, .inr ⟨rfl, h.leaf hi ho hk⟩⟩
/-- A container has been opened. -/
theorem CSt.opened {B : Nat} {d bs : List UInt8} {pos : Nat} {w wr : World} {o s : Value} {p : Nat} {out : List UInt8} {fs : List Fr} (h : CSt B d bs pos w wr o s p out fs) (mem : Bool) {arg hn : Nat} (hh : head (d.drop p) = some (if mem then 5 else 4, arg, hn)) (ha : arg ≠ 0) {o' s' : Value} {w1 w' : World} (ho : Own B w1 o' (out ++ [if mem then 123 else 91])) (hk : Kept B wr w1)
    (hs : Stk B w' s' (⟨arg, mem, false, if mem then 125 else 93⟩ :: fs)) (hg : (w1.alloc (.cells #[.int .u64 arg, .bool mem, .bool false, .int .u8 (if mem then 125 else 93 : UInt8).toNat] 36)).grownBy w' s.ownBlock) (hB : B ≤ w1.heap.size) {q : Value} (hq : q = .int .i64 ((p + hn : Nat) : Int)) :
    SRel B d bs pos w p o' q s' (.bool true) w' := by
  have hb := head_bnd hh
  rw [List.length_drop] at hb
  have h2 := h.p1
  have h3 := h.len
  have hst := (h.stk.kept hk).alloc (.cells #[.int .u64 arg, .bool mem, .bool false, .int .u8 (if mem then 125 else 93 : UInt8).toNat] 36)
  refine ⟨p + hn, _, _, hq, by omega, .inl ⟨rfl, (ho.alloc _).stk hst hg, hs, ?_, h.good.open_ mem arg hn hh ha, ?_, ?_, by omega, by omega⟩⟩
  · exact (h.below.trans hk.1).trans (((Below.refl _ _).alloc hB _).trans (hst.below hg (by simp; omega)))
  · simp; omega
  · intro fr hfr
    rcases List.mem_cons.1 hfr with rfl | hfr
    · exact ⟨by show 1 ≤ arg; omega, hb.2.2.2.1⟩
    · exact h.fr fr hfr
theorem fr_cells_at (w : World) (arg : Nat) (mem want : Bool) (fin : UInt8) (j : Nat) (u : Value) (h : (frCells ⟨arg, mem, want, fin⟩)[j]? = some u) : (w.alloc (.cells #[.int .u64 arg, .bool mem, .bool want, .int .u8 fin.toNat] 36)).cell? ((⟨w.heap.size, 0, none⟩ : Addr).add j) = some u := by
  have : (⟨w.heap.size, 0, none⟩ : Addr).add j = ⟨w.heap.size, j, none⟩ := by simp [Addr.add]; omega
  rw [this, World.cell?_alloc_new]
  simpa [frCells] using h
/-- A colon, a comma: the next item. -/
theorem CDn.colon {B : Nat} {d bs : List UInt8} {pos : Nat} {w wr : World} {o s : Value} {p : Nat} {out : List UInt8} {fr : Fr} {fs : List Fr} (h : CDn B d bs pos w wr o s p out (fr :: fs)) (h1 : fr.isMap = true) (h2 : fr.want = false) {o' s' : Value} {w1 w' : World} (ho : Own B w1 o' (out ++ [58])) (hk : Kept B wr w1)
    (hs : Stk B w' s' (⟨fr.left, true, true, fr.fin⟩ :: fs)) (hg : w1.grownBy w' s.ownBlock) (hB : B ≤ w1.heap.size) : CSt B d bs pos w w' o' s' p (out ++ [58]) (⟨fr.left, true, true, fr.fin⟩ :: fs) := by
  have hst := h.stk.kept hk
  have h3 := h.len
  refine ⟨ho.stk hst hg, hs, (h.below.trans hk.1).trans (hst.below hg hB), h.good.colon h1 h2, by simp at h3 ⊢; omega, ?_, h.p1, h.p2⟩
  intro f hf
  rcases List.mem_cons.1 hf with rfl | hf
  · exact h.fr fr (List.mem_cons_self ..)
  · exact h.fr f (List.mem_cons_of_mem _ hf)
theorem CDn.comma {B : Nat} {d bs : List UInt8} {pos : Nat} {w wr : World} {o s : Value} {p : Nat} {out : List UInt8} {fr : Fr} {fs : List Fr} (h : CDn B d bs pos w wr o s p out (fr :: fs)) (h1 : (fr.isMap && !fr.want) = false) (h2 : 2 ≤ fr.left) {s' : Value} {w1 w' : World} (hb1 : Below B wr w1)
    (hs : Stk B w1 s' (⟨fr.left - 1, fr.isMap, false, fr.fin⟩ :: fs)) {o2 : Value} (ho2 : Own B w' o2 (out ++ [44])) (hk : Kept B w1 w') : CSt B d bs pos w w' o2 s' p (out ++ [44]) (⟨fr.left - 1, fr.isMap, false, fr.fin⟩ :: fs) := by
  have h3 := h.len
  refine ⟨ho2, hs.kept hk, (h.below.trans hb1).trans hk.1, h.good.comma h1 h2, by simp at h3 ⊢; omega, ?_, h.p1, h.p2⟩
  intro f hf
  rcases List.mem_cons.1 hf with rfl | hf
  · have := h.fr fr (List.mem_cons_self ..)
    exact ⟨by show 1 ≤ fr.left - 1; omega, by show fr.left - 1 < _; omega⟩
  · exact h.fr f (List.mem_cons_of_mem _ hf)
theorem CDn.close {B : Nat} {d bs : List UInt8} {pos : Nat} {w wr : World} {o s : Value} {p : Nat} {out : List UInt8} {fr : Fr} {fs : List Fr} (h : CDn B d bs pos w wr o s p out (fr :: fs)) (h1 : (fr.isMap && !fr.want) = false) (h2 : fr.left = 1) {s' : Value} {w1 w' : World} (hb1 : Below B wr w1)
    (hs : Stk B w1 s' fs) {o2 : Value} (ho2 : Own B w' o2 (out ++ [fr.fin])) (hk : Kept B w1 w') : CDn B d bs pos w w' o2 s' p (out ++ [fr.fin]) fs := by
  have h3 := h.len
  exact ⟨ho2, hs.kept hk, (h.below.trans hb1).trans hk.1, h.good.close h1 h2, by simp at h3 ⊢; omega, fun f hf => h.fr f (List.mem_cons_of_mem _ hf), h.p1, h.p2⟩
theorem bytes_sub {w : World} {b o : Nat} {l : List UInt8} (h : Bytes w b o l) (k m : Nat) : Bytes w b (o + k) ((l.drop k).take m) := fun i hi => by
  have hi2 : k + i < l.length := by rw [List.length_take, List.length_drop] at hi; omega
  rw [show o + k + i = o + (k + i) from by omega, h (k + i) hi2]
  simp
/-- The top container, one item fewer. -/
abbrev W1 (wr : World) (g m : Nat) : World := wr.setCell ⟨g, m * 4 + 2, none⟩ (.bool false)
abbrev W2 (wr : World) (g m left : Nat) : World := (W1 wr g m).setCell ⟨g, m * 4, none⟩ (.int .u64 ((left : Int) - 1))
theorem CDn.dec2 {B : Nat} {d bs : List UInt8} {pos : Nat} {w wr : World} {o : Value} {g n cap : Nat} {p : Nat} {out : List UInt8} {left : Nat} {isMap want : Bool} {fin : UInt8} {fs : List Fr} (h : CDn B d bs pos w wr o (.slice (some ⟨g, 0, none⟩) n cap) p out (⟨left, isMap, want, fin⟩ :: fs)) (m : Nat) (hm : m = fs.length) (hn : n = m + 1) (hB : B ≤ wr.heap.size) :
    ((W1 wr g m).cell? ⟨g, m * 4, none⟩ = some (.int .u64 left) ∧ (W1 wr g m).frozen? ⟨g, m * 4, none⟩ = false) ∧ ((W2 wr g m left).cell? ⟨g, m * 4, none⟩ = some (.int .u64 ((left : Int) - 1)) ∧ (W2 wr g m left).cell? ⟨g, m * 4 + 3, none⟩ = some (.int .u8 fin.toNat)) ∧
      Own B (W2 wr g m left) o out ∧ Stk B (W2 wr g m left) (.slice (some ⟨g, 0, none⟩) n cap) (⟨left - 1, isMap, false, fin⟩ :: fs) ∧ Below B wr (W2 wr g m left) := by
  subst hm
  have hl := h.fr _ (List.mem_cons_self ..)
  simp only at hl
  have h1 := h.stk.set (fr' := ⟨left, isMap, false, fin⟩) hn 2 (.bool false) rfl
  have h2 := h1.1.set (fr' := ⟨left - 1, isMap, false, fin⟩) hn 0 (.int .u64 ((left : Int) - 1)) (by
    simp only [frCells, List.set_cons_zero, List.cons.injEq, Value.int.injEq, and_true, true_and]
    omega)
  have t1 := h1.1.topAt
  have t2 := h2.1.topAt
  simp only at t1 t2
  rw [show ((left - 1 : Nat) : Int) = (left : Int) - 1 from by omega] at t2
  have o1 := h.own.stk h.stk h1.2
  exact ⟨⟨t1.1, t1.2.2.2.2 _⟩, ⟨t2.1, t2.2.2.2.1⟩, o1.stk h1.1 h2.2, h2.1, (h.stk.below h1.2 hB).trans (h1.1.below h2.2 (Nat.le_trans hB h1.2.size))⟩
theorem W2_size (wr : World) (g m left : Nat) : (W2 wr g m left).heap.size = wr.heap.size := by simp
theorem lit_cells2 (wr : World) (g m left : Nat) (t : List UInt8) (ty : TypeId) (j : Nat) (u : Value) (h : (Lib.byteCells t)[j]? = some u) : ((W2 wr g m left).alloc (.cells (Lib.byteCells t).toArray ty)).cell? ((⟨wr.heap.size, 0, none⟩ : Addr).add j) = some u := by
  have := lit_cells (W2 wr g m left) t ty j u h
  rw [W2_size] at this
  exact this
end Go.Proofs.Qxb6604022aDoor
