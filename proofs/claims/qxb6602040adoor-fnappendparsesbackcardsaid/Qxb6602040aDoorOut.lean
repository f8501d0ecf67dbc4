import Derived.Test.Qxb6602040aDoorFld
namespace Go.Proofs.Qxb6602040aDoor
open Go.RowKit

set_option maxHeartbeats 4000000 in
set_option maxRecDepth 20000 in
theorem law_out (nm sv st : ByteArray) (tx : Int) (a : Option Addr) (n c : Nat) (w : World) (h1 : nm.size ≤ maxLen) (h2 : sv.size ≤ maxLen) (h3 : st.size ≤ maxLen) (h4 : n ≤ maxLen)
    (h : 1048576 < nm.size ∨ 1048576 < sv.size ∨ 1048576 < st.size ∨ 65536 < n ∨ 1048576 < nm.size + sv.size + st.size + 8 * n) :
    Calls Tryd.prog 4 #[.string nm, .string sv, .string st, .int .i64 tx, .slice a n c] w fun e w' => e = .returned (.bool true) ∧ Below w.heap.size w w' := by
  have HZ := hide (size_any nm sv st tx a n c w h1 h2 h3 h4)
  have HH := hide h
  clear h
  unfold maxLen at h1 h2 h3 h4
  go_enter Tryd.func4, Tryd.ntmps4
  go_wp2_with fail
  go_at_call 9
  refine HZ.out.mono ?_
  rintro e w' ⟨r, rfl, hw'⟩
  replace hw' := hw'.symm
  subst hw'
  cases r with
  | false =>
    go_wp2
    go_ret
    exact ⟨rfl, Below.refl _ _⟩
  | true =>
    by_cases g1 : 1048576 < nm.size
    · go_wp2
      go_ret
      exact ⟨rfl, Below.refl _ _⟩
    · by_cases g2 : 1048576 < sv.size
      · go_wp2
        go_ret
        exact ⟨rfl, Below.refl _ _⟩
      · by_cases g3 : 1048576 < st.size
        · go_wp2
          go_ret
          exact ⟨rfl, Below.refl _ _⟩
        · by_cases g4 : 65536 < n
          · go_wp2
            go_ret
            exact ⟨rfl, Below.refl _ _⟩
          · have g5 : 1048576 < nm.size + sv.size + st.size + 8 * n := by have := HH.out; omega
            go_wp2
            go_ret
            exact ⟨rfl, Below.refl _ _⟩
end Go.Proofs.Qxb6602040aDoor
