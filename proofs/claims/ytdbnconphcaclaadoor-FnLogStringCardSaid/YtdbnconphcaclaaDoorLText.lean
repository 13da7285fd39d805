/-
  impl.LString: the text between quotation marks, as esc writes it. Conditions: texts of at most 2000 bytes; the tables of unicode/utf8 lie as their initialisers lay them.
-/
import Derived.Test.YtdbnconphcaclaaDoorLStr
import Derived.Lib.SlBytesRow
import Derived.Lib.BufferRead
namespace Go.Proofs.YtdbnconphcaclaaDoor
open Go.RowKit
set_option linter.unusedVariables false

theorem own_bytes {w : World} {B : Nat} {v : Value} {l : List UInt8} (h : OwnB w B v l) : (v = .slice none 0 0 ∧ l = []) ∨ ∃ g c, v = .slice (some ⟨g, 0, none⟩) l.length c ∧ B ≤ g ∧ Lib.Bytes w g 0 ⟨l.toArray⟩ := by
  obtain ⟨hlen, h | ⟨g, cap, cur, rfl, hg, hc, hn, hcap, hsz, ht⟩⟩ := h
  · exact .inl ⟨h.1, List.length_eq_zero_iff.1 h.2⟩
  · refine .inr ⟨g, cap, rfl, hg, fun i hi => ?_⟩
    have hi' : i < l.length := by simpa [ByteArray.size] using hi
    rw [show w.cell? ⟨g, 0 + i, none⟩ = cur[0 + i]? by simp [World.cell?, hc], Nat.zero_add]
    rw [Nat.mul_one] at ht
    have h1 : cur.toList[i]? = (bytesV l)[i]? := by
      rw [← ht, List.getElem?_take, if_pos hi']
    rw [← Array.getElem?_toList, h1]
    simp only [bytesV, List.getElem?_map]
    rw [List.getElem?_eq_getElem hi']
    rfl
/-- string(b), b the call's own bytes. -/
theorem text_of_own {w : World} {B : Nat} {v : Value} {l : List UInt8} (h : OwnB w B v l) : (convert 29 9 v).run Tryd.prog w = .ok (.string ⟨l.toArray⟩) w := by
  rcases own_bytes h with ⟨rfl, rfl⟩ | ⟨g, c, rfl, -, hb⟩
  · exact Lib.run_convert_nil_bytes w 29 9 5 0 Tryd.underlying29 Tryd.underlying5 Tryd.underlying9
  · have := Lib.run_convert_whole (P := Tryd.prog) w 29 5 9 Tryd.underlying29 Tryd.underlying5 Tryd.underlying9 g 0 ⟨l.toArray⟩ hb c
    simpa [ByteArray.size] using this

def quoted (l : List UInt8) : ByteArray := ⟨([34] ++ esc l ++ [34]).toArray⟩

set_option maxRecDepth 100000 in
theorem lstring (s : ByteArray) (w : World) (hs : s.size ≤ 2000) (hT : Lib.Utf8Tabs 0 1 w) :
    Calls Tryd.prog 14 #[.string s] w fun e w' => e = .returned (.string (quoted s.data.toList)) ∧ Below w.heap.size w w' := by
  have HT := Lib.hid hT
  clear hT
  go_enter Tryd.func14, Tryd.ntmps14
  go_wp2_with (go_at_call 34; refine (append_string s _ hs HT.out).mono ?_; rintro e w1 ⟨v, rfl, hA, hb⟩; have ht := text_of_own hA)
  go_ret
  exact ⟨rfl, hb⟩
end Go.Proofs.YtdbnconphcaclaaDoor
