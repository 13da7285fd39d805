/-
  A text that lies in memory: its bytes, a cut of them appended, a rune read. Conditions: as each theorem says.
-/
import Derived.Test.YtdbnconphcaclaaDoorLText
import Derived.Test.YtdbnconphcaclaaDoorShelfRune
namespace Go.Proofs.YtdbnconphcaclaaDoor
open Go.RowKit
set_option linter.unusedVariables false

theorem bytes_keep {w w' : World} {B g : Nat} {s : ByteArray} (h : Lib.Bytes w g 0 s) (hb : Below B w w') (hg : g < B) : Lib.Bytes w' g 0 s :=
  fun i hi => (hb.cell (p := ⟨g, 0 + i, none⟩) (by show g < B; omega)).trans (h i hi)
theorem bytes_cell {w : World} {g k : Nat} {s : ByteArray} (h : Lib.Bytes w g 0 s) (hk : k < s.size) : w.cell? ⟨g, k, none⟩ = some (.int .u8 (s[k].toNat : Int)) := by
  have := h k hk
  rwa [Nat.zero_add] at this
theorem cut_len (s : ByteArray) (a b : Nat) (hb : b ≤ s.size) : ((s.data.toList.take b).drop a).length = b - a := by
  rw [List.length_drop, List.length_take, ← size_list]
  omega

theorem decode_mem (s : ByteArray) (g k off m c : Nat) (r n : Int) (w : World) (ho : off = k) (hm : m = s.size - k) (hi : k < s.size) (hT : Lib.Utf8Tabs 0 1 w) (hb : Lib.Bytes w g 0 s) (hr : r = (dec (s.data.toList.drop k)).1) (hn : n = (dec (s.data.toList.drop k)).2) :
    Calls Tryd.prog 73 #[.slice (some ⟨g, off, none⟩) m c] w fun e w' => e = .returned (.tuple #[.int .i32 r, .int .i64 n]) ∧ Below w.heap.size w w' := by
  subst ho
  have hne : s.data.toList.drop off ≠ [] := by
    intro h
    rw [List.drop_eq_nil_iff] at h
    rw [size_list] at hi
    omega
  have hsz : (ByteArray.mk (s.data.toList.drop off).toArray).size = s.size - off := by
    rw [size_list, List.toList_toArray, List.length_drop, ← size_list]
  have h := Tryd.utf8_DecodeRune ⟨(s.data.toList.drop off).toArray⟩ g off c w hT (by
    intro j hj
    rw [hsz] at hj
    have h1 := hb (off + j) (by omega)
    rw [Nat.zero_add] at h1
    rw [h1, get!_mk, List.getD_eq_getElem?_getD, List.getElem?_drop]
    have h2 : s.data.toList[off + j]? = some s[off + j] := by
      rw [List.getElem?_eq_getElem (by rw [← size_list]; omega)]
      rfl
    rw [h2]
    rfl)
  rw [decodeGo_mk _ hne, ← hr, ← hn, hsz, ← hm] at h
  exact h

section
variable {ops : Array Oper} {rest : List Oper} {o : Oper} {a : Act} {Q : Exit → Act → World → Prop} {w W0 : World} {B c : Nat} {v : Value} {A : List UInt8}
/-- append(b, s[z:k]...), s a text in memory. -/
theorem app_m (sl x : Operand) (hgd : o.guard = none) (ho : o.op = .call { callee := .builtin .append, args := #[sl, x], argTypes := #[29, 29] })
    (hs : a.eval sl = v) (hown : OwnB w B v A) (s : ByteArray) (g z k : Nat) (hby : Lib.Bytes w g 0 s) (hzk : z ≤ k) (hk : k ≤ s.size) (z' m : Nat) (hx : a.eval x = .slice (some ⟨g, z', none⟩) m c) (hz' : z' = z) (hm : m = k - z) (hlen : A.length + (k - z) ≤ 140737488355328) (hB : B ≤ w.heap.size) (hbel : Below B W0 w)
    (h : ∀ v' w', OwnB w' B v' (A ++ (s.data.toList.take k).drop z) → Below B W0 w' → w.heap.size ≤ w'.heap.size → wpList Tryd.prog ops Q rest (a.put o.dst v') w') : wpList Tryd.prog ops Q (o :: rest) a w := by
  obtain ⟨ti, hi, hz0, hz1, hz2⟩ := info_parts byte_info
  subst hz' hm
  have hcl := cut_len s z' k hk
  refine wpList_append_own _ hgd sl x 29 ho B 5 ti (.int .u8 0) 1 1 Tryd.underlying29 hi hz0 hz1 hz2 rfl (by decide) v _ _ hs hown ⟨g, z', none⟩ (k - z') c (bytesV ((s.data.toList.take k).drop z')) hx (by rw [bytesV_length, hcl, Nat.mul_one])
    (fun j u hu => ?_) (fun u hu => ?_) (by unfold maxLen; omega) (by omega) hB ?_
  · have hadd : (⟨g, z', none⟩ : Addr).add j = ⟨g, z' + j, none⟩ := by unfold Addr.add; split <;> simp_all
    rw [hadd]
    simp only [bytesV, List.getElem?_map, Option.map_eq_some_iff] at hu
    obtain ⟨b, hb, rfl⟩ := hu
    have hj : j < k - z' := by
      rcases Nat.lt_or_ge j (k - z') with h' | h'
      · exact h'
      · rw [List.getElem?_eq_none (by rw [hcl]; exact h')] at hb
        cases hb
    have h1 := bytes_cell hby (k := z' + j) (by omega)
    rw [h1]
    rw [List.getElem?_drop, List.getElem?_take, if_pos (by omega), List.getElem?_eq_getElem (by rw [← size_list]; omega)] at hb
    rw [← Option.some.inj hb]
    rfl
  · simp only [bytesV, List.mem_map] at hu
    obtain ⟨b, _, rfl⟩ := hu
    rfl
  · intro v' w' ho' hg' _
    exact h v' w' (hown.more ho' rfl hcl.symm) (hbel.trans (own_below hown hg' hB)) hg'.size
end
end Go.Proofs.YtdbnconphcaclaaDoor
