/-
  The law FnLogSpan: any duration is told by impl as spec says it.
-/
import Derived.Test.YtdbnconphcaclaaDoorSpan2
namespace Go.Proofs.YtdbnconphcaclaaDoor
open Go.RowKit
set_option linter.unusedVariables false

set_option maxRecDepth 100000 in
theorem span_law (d : Int) (hd : -9223372036854775808 ≤ d ∧ d ≤ 9223372036854775807) (w : World) :
    Calls Tryd.prog 3 #[.int .i64 d] w fun e w' => e = .returned (.bool true) ∧ Below w.heap.size w w' := by
  obtain ⟨h0, h1⟩ := hd
  obtain ⟨T, hT⟩ : ∃ T, T = spanT d := ⟨_, rfl⟩
  have es : ((ByteArray.mk T.toArray).toList == (ByteArray.mk T.toArray).toList) = true := by simp
  have HT := Lib.hid hT
  clear hT
  go_enter Tryd.func3, Tryd.ntmps3
  go_wp2_with (first
    | (go_at_call 10; refine (lspan d _ h0 h1).mono ?_; rintro e w1 ⟨rfl, hb⟩; rw [← HT.out])
    | (go_at_call 11; refine (sspan d _ h0 h1).mono ?_; rintro e w2 ⟨rfl, hb2⟩; rw [← HT.out])
    | (go_at_call 12; refine (awake_any _).mono ?_; rintro e w' ⟨rfl, n2, rfl⟩))
  go_ret
  exact ⟨rfl, below_drewN (hb.trans (hb2.mono hb.size)) _⟩
end Go.Proofs.YtdbnconphcaclaaDoor
