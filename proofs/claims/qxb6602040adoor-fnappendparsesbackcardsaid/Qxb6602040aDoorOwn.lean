import Derived.Test.Qxb6602040aDoorShelf
import Derived.WalkKit
import Derived.WalkSpells
import Derived.WalkLawsBesides
import Derived.Lib.AppendStr
import Derived.Lib.OwnKind
import Derived.Lib.OthersKept
import Derived.Lib.SliceRun
import Derived.Lib.AppendIntMem
import Derived.Laws.OwnMore
import Derived.Deep.DeepFit
import Derived.Deep.DeepMust
import Derived.BigQuiet
namespace Go.Proofs.Qxb6602040aDoor
open Go.RowKit

theorem hide {p : Prop} (h : p) : Hid p := h
theorem Tryd.info5 : (Tryd.prog.info? 5).map (fun i => (i.zero, i.size, i.bytes)) = some (some (.int .u8 0), 1, 1) := by kernel_rfl
theorem Tryd.info2 : (Tryd.prog.info? 2).map (fun i => (i.zero, i.size, i.bytes)) = some (some (.int .i64 0), 1, 8) := by kernel_rfl

/-- The value owns these bytes. -/
def Own (B : Nat) (w : World) (v : Value) (bs : List UInt8) : Prop := w.ownsRow B 5 1 v bs.length (Lib.byteCells bs)
/-- Below B nothing has turned; of what is above, no block but rows of bytes. -/
def Kept (B : Nat) (w w' : World) : Prop := Below B w w' ∧ Lib.OthersKept 5 none w w'

theorem Kept.refl (B : Nat) (w : World) : Kept B w w := ⟨Below.refl _ _, Lib.OthersKept.refl _ _ _⟩
theorem Kept.trans {B : Nat} {a b c : World} (h : Kept B a b) (k : Kept B b c) : Kept B a c := ⟨h.1.trans k.1, h.2.trans k.2⟩
theorem Kept.size {B : Nat} {a b : World} (h : Kept B a b) : a.heap.size ≤ b.heap.size := h.1.size
theorem Kept.alloc {B : Nat} {a b : World} (h : Kept B a b) (hB : B ≤ b.heap.size) (o : Obj) : Kept B a (b.alloc o) := ⟨h.1.alloc hB o, h.2.alloc o⟩
theorem Own.alloc {B : Nat} {w : World} {v : Value} {bs : List UInt8} (h : Own B w v bs) (o : Obj) : Own B (w.alloc o) v bs := World.ownsRow.alloc h o
theorem Own.nil (B : Nat) (w : World) : Own B w (.slice none 0 0) [] := World.ownsRow_nil _ _ _ _
theorem Own.shape {B : Nat} {w : World} {v : Value} {bs : List UInt8} (h : Own B w v bs) : ∃ a n c, v = .slice a n c ∧ Hid (n = bs.length) := by
  rcases h.2 with ⟨rfl, h0⟩ | ⟨g, cap, cur, rfl, _⟩
  · exact ⟨none, 0, 0, rfl, h0.symm⟩
  · exact ⟨_, _, _, rfl, rfl⟩

theorem byteCells_append (l m : List UInt8) : Lib.byteCells (l ++ m) = Lib.byteCells l ++ Lib.byteCells m := by simp [Lib.byteCells]
theorem byteCells_one (l : List UInt8) : ∀ u ∈ Lib.byteCells l, u.oneCell' = true := fun u hu => by
  simp only [Lib.byteCells, List.mem_map] at hu; obtain ⟨b, _, rfl⟩ := hu; rfl

/-- APPEND OF BYTES THAT LIE SOMEWHERE. -/
theorem wpList_app {w : World} {ops : Array Oper} {rest : List Oper} {o : Oper} {a : Act} {Q : Exit → Act → World → Prop} (hgd : o.guard = none) (s x : Operand)
    (ho : o.op = .call { callee := .builtin .append, args := #[s, x], argTypes := #[22, 22] })
    (B : Nat) (v : Value) (bs : List UInt8) (hs : a.eval s = v) (hown : Own B w v bs) (t : List UInt8) (ad : Addr) (m c : Nat) (hm : m = t.length) (hx : a.eval x = .slice (some ad) m c)
    (hc : ∀ j u, (Lib.byteCells t)[j]? = some u → w.cell? (ad.add j) = some u) (hlim : bs.length + t.length ≤ 140737488355328) (hB : B ≤ w.heap.size)
    (h : ∀ v' w', Own B w' v' (bs ++ t) → Kept B w w' → wpList Tryd.prog ops Q rest (a.put o.dst v') w') : wpList Tryd.prog ops Q (o :: rest) a w := by
  subst hm
  obtain ⟨i0, hi, hz0, hz1, hz2⟩ := info_parts Tryd.info5
  refine wpList_append_own w hgd s x 22 ho B 5 i0 (.int .u8 0) 1 1 Tryd.underlying22 hi hz0 hz1 hz2 rfl (by decide) v bs.length (Lib.byteCells bs) hs hown ad t.length c (Lib.byteCells t) hx (by rw [Lib.byteCells_length, Nat.mul_one]) hc (byteCells_one t) (by unfold maxLen; omega) (by omega) hB ?_
  intro v' w' h1 h2 _
  refine h v' w' ?_ ⟨(Below.refl _ _).grown h2 hB (fun k hk => (World.ownsRow.lt hown k hk).1), (Lib.OthersKept.refl _ _ _).grown h2 (Lib.ownsRow_kind hown)⟩
  unfold Own
  rw [List.length_append, byteCells_append]
  exact h1

/-- APPEND OF A STRING. -/
theorem wpList_appS {w : World} {ops : Array Oper} {rest : List Oper} {o : Oper} {a : Act} {Q : Exit → Act → World → Prop} (hgd : o.guard = none) (s x : Operand) (ut : TypeId)
    (ho : o.op = .call { callee := .builtin .append, args := #[s, x], argTypes := #[22, ut] }) (hut : Tryd.prog.underlying ut = some .string)
    (B : Nat) (v : Value) (bs : List UInt8) (hs : a.eval s = v) (hown : Own B w v bs) (t : ByteArray) (hx : a.eval x = .string t)
    (hlim : bs.length + t.size ≤ 140737488355328) (hB : B ≤ w.heap.size)
    (h : ∀ v' w', Own B w' v' (bs ++ t.data.toList) → Kept B w w' → wpList Tryd.prog ops Q rest (a.put o.dst v') w') : wpList Tryd.prog ops Q (o :: rest) a w := by
  obtain ⟨i0, hi, hz0, hz1, hz2⟩ := info_parts Tryd.info5
  refine Lib.wpList_append_own_string w hgd s x 22 ut ho B 5 i0 Tryd.underlying22 hut hi hz0 hz1 hz2 v bs.length (Lib.byteCells bs) hs hown t hx (by unfold maxLen; omega) (by omega) hB ?_
  intro v' w' h1 h2 _
  refine h v' w' ?_ ⟨(Below.refl _ _).grown h2 hB (fun k hk => (World.ownsRow.lt hown k hk).1), (Lib.OthersKept.refl _ _ _).grown h2 (Lib.ownsRow_kind hown)⟩
  unfold Own
  rw [List.length_append, byteCells_append, Array.length_toList]
  exact h1

/-- The cells of a new block of bytes. -/
theorem lit_cells (w : World) (t : List UInt8) (ty : TypeId) (j : Nat) (u : Value) (h : (Lib.byteCells t)[j]? = some u) : (w.alloc (.cells (Lib.byteCells t).toArray ty)).cell? ((⟨w.heap.size, 0, none⟩ : Addr).add j) = some u := by
  have : (⟨w.heap.size, 0, none⟩ : Addr).add j = ⟨w.heap.size, j, none⟩ := by simp [Addr.add]; omega
  rw [this, World.cell?_alloc_new]
  simpa using h

/-- What an appending call leaves. -/
def App (B : Nat) (w : World) (bs t : List UInt8) (e : Ending) (w' : World) : Prop := ∃ v', e = .returned v' ∧ Own B w' v' (bs ++ t) ∧ Kept B w w'

theorem appInt_any (B : Nat) (v : Value) (bs : List UInt8) (i : Int) (w : World) (h0 : -9223372036854775808 ≤ i) (h1 : i ≤ 9223372036854775807) (hown : Own B w v bs) (hB : B ≤ w.heap.size) (hlim : bs.length + 21 ≤ 140737488355328)
    (htab : Lib.TabBelow Tryd.prog B w powName .u64 Lib.pow10Tab) :
    Calls Tryd.prog 15 #[v, .int .i64 i, .int .i64 10] w fun e w' => App B w bs (Lib.itoa i) e w' := by
  refine (Tryd.strconv_AppendInt_10 B bs.length i h0 h1 v (Lib.byteCells bs) w hown hB hlim htab).mono ?_
  rintro e w' ⟨v', rfl, h1, h2, h3⟩
  refine ⟨_, rfl, ?_, h2, h3⟩
  unfold Own
  rw [List.length_append, byteCells_append]
  exact h1

/-- The cells from there on hold the bytes. -/
def Bytes (w : World) (b o : Nat) (l : List UInt8) : Prop := ∀ i (h : i < l.length), w.cell? ⟨b, o + i, none⟩ = some (.int .u8 l[i].toNat)
end Go.Proofs.Qxb6602040aDoor
