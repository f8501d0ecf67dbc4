import Derived.Test.Qxb6604040aDoorCount
namespace Go.Proofs.Qxb6604040aDoor
open Go.RowKit

theorem prem_any (s : ByteArray) (w : World) (hs : s.size ≤ 65536) :
    Calls Tryd.prog 7 #[.string s] w fun e w' => (e = .returned (.tuple #[.slice none 0 0, .slice none 0 0, .int .u64 0, .bool false]) ∨
      ∃ vw vk t, PremYes s w' vw vk t ∧ e = .returned (.tuple #[vw, vk, .int .u64 (mulAt t), .bool true])) ∧ Below w.heap.size w w' := by
  by_cases hd : domB s = true
  · by_cases hn : (wordsOf s).length < 256
    · exact prem_few s w hs hd hn
    · exact (prem_many s w hs hd (by omega)).mono fun e w' h => ⟨.inl h.1, h.2⟩
  · exact (prem_nodom s w hs (by simpa using hd)).mono fun e w' h => ⟨.inl h.1, h.2⟩

set_option maxHeartbeats 400000 in
theorem zzNew_any (s : ByteArray) (w : World) (t : Nat) (hs : s.size ≤ 65536) (hd : domB s = true) (htab : Lib.TabIs Tryd.prog w "strings.asciiSpace" .u8 Lib.asciiSpaceTab) (hn : (wordsOf s).length < 256) (hf : FirstAt (wordsOf s) t) :
    Calls Tryd.prog 8 #[.string s] w fun e w' => ∃ B g n, e = .returned (.pointer (some ⟨B, 0, none⟩)) ∧ n = (wordsOf s).length ∧
      SetAt w' B (.slice (some ⟨g, 0, none⟩) n n) (mulAt t) (slotsTo (mulAt t) (wordsOf s) n) (keysF (wordsOf s) n) ∧ (∀ i (h : i < (wordsOf s).length), w'.cell? ⟨g, i, none⟩ = some (.string ⟨(wordsOf s)[i].toArray⟩)) ∧ Below w.heap.size w w' := by
  have HN := hide (newWordSet_any s w t hs hd htab hn hf)
  clear hs hd htab hn hf
  go_enter Tryd.func8, Tryd.ntmps8
  go_wp2_with (go_at_call 23; refine HN.out.mono ?_; rintro e w' ⟨B, g, n, rfl, hn, hset, hc, hb⟩; have HH := hide (And.intro hn (And.intro hset (And.intro hc hb))); clear hn hset hc hb)
  go_ret
  exact ⟨B, g, n, rfl, HH.out⟩

set_option maxHeartbeats 400000 in
theorem law_long (s : ByteArray) (w : World) (hs : s.size ≤ maxLen) (h : 65536 < s.size) :
    Calls Tryd.prog 5 #[.string s] w fun e w' => e = .returned (.bool true) ∧ Below w.heap.size w w' := by
  have HZ := hide (zzBytes_any s w hs)
  unfold maxLen at hs
  by_cases h2 : s.size ≤ 1048576
  · rw [decide_eq_true h2] at HZ
    go_enter Tryd.func5, Tryd.ntmps5
    go_wp2_with (go_at_call 14; refine HZ.out.mono ?_; rintro e w' ⟨rfl, hw'⟩; replace hw' := hw'.symm; subst hw')
    go_ret
    exact ⟨rfl, Below.refl _ _⟩
  · rw [decide_eq_false h2] at HZ
    go_enter Tryd.func5, Tryd.ntmps5
    go_wp2_with (go_at_call 14; refine HZ.out.mono ?_; rintro e w' ⟨rfl, hw'⟩; replace hw' := hw'.symm; subst hw')
    go_ret
    exact ⟨rfl, Below.refl _ _⟩
end Go.Proofs.Qxb6604040aDoor
