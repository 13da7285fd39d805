/-
  LString: a text is written as a quotation mark, esc of it, and a quotation mark. Conditions: texts of at most 2000 bytes; the tables of unicode/utf8 lie as their initialisers lay them.
-/
import Derived.Test.YtdbnconphcaclaaDoorLCplx
namespace Go.Proofs.YtdbnconphcaclaaDoor
open Go.RowKit
set_option linter.unusedVariables false

theorem tabs_size {w : World} (h : Lib.Utf8Tabs 0 1 w) : 2 ≤ w.heap.size := by
  have h1 := (h.2 0 (by decide)).1
  rcases Nat.lt_or_ge 1 w.heap.size with h' | h'
  · omega
  · simp [World.cell?, Array.getElem?_eq_none h'] at h1

/-- app_l, the new block's number spelled as the walk spells it. -/
theorem app_lg {ops : Array Oper} {rest : List Oper} {o : Oper} {a : Act} {Q : Exit → Act → World → Prop} {w W0 : World} {B c g : Nat} {v : Value} {A : List UInt8} (sl x : Operand) (hgd : o.guard = none) (ho : o.op = .call { callee := .builtin .append, args := #[sl, x], argTypes := #[29, 29] })
    (hs : a.eval sl = v) (hown : OwnB w B v A) (m : List UInt8) (cs : Array Value) (hcs : cs = (bytesV m).toArray) (hg : w.heap.size = g) (hx : a.eval x = .slice (some ⟨g, 0, none⟩) m.length c) (hlen : A.length + m.length ≤ 140737488355328) (hB : B ≤ w.heap.size) (hbel : Below B W0 w)
    (h : ∀ v' w', OwnB w' B v' (A ++ m) → Below B W0 w' → w.heap.size ≤ w'.heap.size → wpList Tryd.prog ops Q rest (a.put o.dst v') w') : wpList Tryd.prog ops Q (o :: rest) a (w.alloc (.cells cs 5)) := by
  subst hg
  exact app_l sl x hgd ho hs hown m cs hcs hx hlen hB hbel h

def Plain (s : ByteArray) (k : Nat) : Prop := ∀ x ∈ s.data.toList.take k, nEsc x = true
theorem plain_next {s : ByteArray} {k : Nat} (h : Plain s k) (hk : k < s.size) (he : nEsc s[k] = true) : Plain s (k + 1) := by
  intro x hx
  rw [take_snoc s k hk, List.mem_append] at hx
  rcases hx with hx | hx
  · exact h x hx
  · have : x = s[k] := by simpa using hx
    subst this
    exact he

def AppRet (B : Nat) (w : World) (T : List UInt8) (e : Ending) (w' : World) : Prop := ∃ v, e = .returned v ∧ OwnB w' B v T ∧ Below B w w'

set_option maxRecDepth 100000 in
set_option maxHeartbeats 1000000 in
theorem append_string (s : ByteArray) (w : World) (hs : s.size ≤ 2000) (hT : Lib.Utf8Tabs 0 1 w) :
    Calls Tryd.prog 34 #[.agg #[], .slice none 0 0, .string s] w (AppRet w.heap.size w ([34] ++ esc s.data.toList ++ [34])) := by
  have hel : (esc s.data.toList).length ≤ 12000 := by have := esc_length s.data.toList; rw [← size_list] at this; omega
  have HT := Lib.hid hT
  have h2 := tabs_size hT
  clear hT
  go_enter Tryd.func34, Tryd.ntmps34
  go_wp2_with (at_builtin; refine app_lg (.tmp 8) (.tmp 9) rfl rfl rfl (OwnB.nil _ w.heap.size) [34] _ (by rfl) (g := w.heap.size + 1) (by simp) rfl (by simp) (by simp) ((Below.refl w.heap.size w).alloc (Nat.le_refl _) _) ?_; intro v1 w1 hA1 hb1 _; have H1 := Lib.hid (And.intro hA1 hb1); clear hA1 hb1)
  go_loop [1, 7] (fun d i => ∃ k : Nat, k ≤ s.size ∧ v1 = d ∧ i = .int .i64 k ∧ Plain s k) (fun _ i => s.size - (intOf i).toNat)
  case atStart => exact ⟨0, Nat.zero_le _, rfl, rfl, by intro x hx; simp at hx⟩
  case round =>
    obtain ⟨k, hk, rfl, rfl, hp⟩ := hrel
    have HP := Lib.hid hp
    clear hp
    have hsz1 := H1.out.2.size
    by_cases hlt : k < s.size
    · by_cases he : nEsc s[k] = true
      · go_wp2_with (go_at_call 51; refine (noescape_byte _ _).mono ?_; rintro e w' ⟨rfl, rfl⟩)
        go_round
        case rel => exact ⟨k + 1, by omega, rfl, by go_num, plain_next HP.out hlt he⟩
        case measure => simp [intOf]; omega
      · have he' : nEsc s[k] = false := by simpa using he
        have hT1 := tabs_keep HT.out H1.out.2 h2
        have hc : Cplx s ([34] ++ esc s.data.toList) [34] 0 k := by
          unfold Cplx
          rw [esc_take s.data.toList k HP.out]
          simp
        have HC := Lib.hid hc
        have hTl : ([34] ++ esc s.data.toList).length ≤ 100000 := by simp only [List.length_append, List.length_cons, List.length_nil]; omega
        clear he hc
        go_wp2_with (first
          | (go_at_call 51; refine (noescape_byte _ _).mono ?_; rintro e w' ⟨rfl, rfl⟩)
          | (go_at_call 52; refine (complex_any s k w.heap.size v1 [34] _ _ hs hk H1.out.1 (by omega) h2 hT1 HC.out hTl).mono ?_; rintro e w2 ⟨v2, rfl, hA2, hb2⟩; have hsz2 := hb2.size)
          | (at_builtin; refine app_l (.tmp 26) (.tmp 27) rfl rfl rfl hA2 [34] _ (by rfl) rfl (by simp only [List.length_append, List.length_cons, List.length_nil]; omega) (by omega) (H1.out.2.trans hb2) ?_; intro v3 w3 hA3 hb3 _))
        go_ret
        exact ⟨_, rfl, hA3, hb3⟩
    · have hkk : k = s.size := by omega
      have hall : esc s.data.toList = s.data.toList := esc_all _ (by
        intro x hx
        refine HP.out x ?_
        rw [List.take_of_length_le (by rw [hkk]; exact Nat.le_of_eq (size_list s).symm)]
        exact hx)
      have HA := Lib.hid hall
      clear hall
      have hl2 : ([34] ++ s.data.toList).length + [(34 : UInt8)].length ≤ 140737488355328 := by
        have : s.data.toList.length = s.size := (size_list s).symm
        simp only [List.length_append, List.length_cons, List.length_nil]; omega
      have hl1 : [(34 : UInt8)].length + s.size ≤ 140737488355328 := by simp only [List.length_cons, List.length_nil]; omega
      go_wp2_with (first
        | (at_builtin; refine app_s (.tmp 29) (.tmp 30) rfl rfl rfl H1.out.1 s rfl hl1 (by omega) H1.out.2 ?_; intro v2 w2 hA2 hb2 hsz2)
        | (at_builtin; refine app_l (.tmp 32) (.tmp 33) rfl rfl rfl hA2 [34] _ (by rfl) rfl hl2 (by omega) hb2 ?_; intro v3 w3 hA3 hb3 _))
      go_ret
      exact ⟨_, rfl, by rw [HA.out]; exact hA3, hb3⟩
end Go.Proofs.YtdbnconphcaclaaDoor
