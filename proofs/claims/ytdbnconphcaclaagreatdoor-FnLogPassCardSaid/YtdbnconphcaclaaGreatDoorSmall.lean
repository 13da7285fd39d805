/-
  Words for bytes of the call's own: what is appended, read as a text, kept. Plain lemmas (gathered from the texts of the statements over strings, so that a proof that reaches none of these need not import them).
-/
import Derived.Lib.AppendStr
import Derived.Lib.SlBytesRow
import Derived.Lib.BufferRead
import Derived.StillTailTactics
import Derived.Deep.RegionLaw
import Derived.Test.YtdbnconphcaclaaGreatDoorWords
namespace Go.Proofs.YtdbnconphcaclaaGreatDoor
open Go.RowKit
set_option linter.unusedVariables false

theorem byte_info : (Tryz.prog.info? 5).map (fun i => (i.zero, i.size, i.bytes)) = some (some (.int .u8 0), 1, 1) := by kernel_rfl

def bytesV (l : List UInt8) : List Value := l.map fun b => Value.int .u8 b.toNat
theorem bytesV_append (l m : List UInt8) : bytesV (l ++ m) = bytesV l ++ bytesV m := by simp [bytesV]
theorem bytesV_length (l : List UInt8) : (bytesV l).length = l.length := by simp [bytesV]
/-- A slice value of the call's own that holds these bytes. -/
def OwnB (w : World) (B : Nat) (v : Value) (l : List UInt8) : Prop := w.ownsRow B 5 1 v l.length (bytesV l)
theorem OwnB.nil (w : World) (B : Nat) : OwnB w B (.slice none 0 0) [] := World.ownsRow_nil _ _ _ _
theorem OwnB.more {w w' : World} {B n : Nat} {v v' : Value} {l m : List UInt8} {vs : List Value} (h : OwnB w B v l) (ho : w'.ownsRow B 5 1 v' (l.length + n) (bytesV l ++ vs)) (hv : vs = bytesV m) (hn : n = m.length) : OwnB w' B v' (l ++ m) := by
  unfold OwnB
  rw [bytesV_append, List.length_append, ← hv, ← hn]
  exact ho
theorem own_below {w w' : World} {B : Nat} {v : Value} {l : List UInt8} (h : OwnB w B v l) (hg : w.grownBy w' v.ownBlock) (hB : B ≤ w.heap.size) : Below B w w' :=
  (Below.refl B w).grown hg hB fun k e => (h.lt k e).1

section
variable {ops : Array Oper} {rest : List Oper} {o : Oper} {a : Act} {Q : Exit → Act → World → Prop} {w W0 : World} {B c : Nat} {v : Value} {A : List UInt8}
/-- append(b, s...), b the call's own. -/
theorem app_s (sl x : Operand) (hgd : o.guard = none) (ho : o.op = .call { callee := .builtin .append, args := #[sl, x], argTypes := #[43, 9] })
    (hs : a.eval sl = v) (hown : OwnB w B v A) (s : ByteArray) (hx : a.eval x = .string s) (hlen : A.length + s.size ≤ 140737488355328) (hB : B ≤ w.heap.size) (hbel : Below B W0 w)
    (h : ∀ v' w', OwnB w' B v' (A ++ s.data.toList) → Below B W0 w' → w.heap.size ≤ w'.heap.size → wpList Tryz.prog ops Q rest (a.put o.dst v') w') : wpList Tryz.prog ops Q (o :: rest) a w := by
  obtain ⟨ti, hi, hz0, hz1, hz2⟩ := info_parts byte_info
  refine Lib.wpList_append_own_string _ hgd sl x 43 9 ho B 5 ti Tryz.underlying43 Tryz.underlying9 hi hz0 hz1 hz2 v _ _ hs hown s hx (by unfold maxLen; omega) hlen hB ?_
  intro v' w' ho' hg' _
  exact h v' w' (hown.more ho' rfl (Lib.size_eq s)) (hbel.trans (own_below hown hg' hB)) hg'.size
/-- append(b, x, y, ..): what is appended lies in a new block. -/
theorem app_l (sl x : Operand) (hgd : o.guard = none) (ho : o.op = .call { callee := .builtin .append, args := #[sl, x], argTypes := #[43, 43] })
    (hs : a.eval sl = v) (hown : OwnB w B v A) (m : List UInt8) (cs : Array Value) (hcs : cs = (bytesV m).toArray) (hx : a.eval x = .slice (some ⟨w.heap.size, 0, none⟩) m.length c) (hlen : A.length + m.length ≤ 140737488355328) (hB : B ≤ w.heap.size) (hbel : Below B W0 w)
    (h : ∀ v' w', OwnB w' B v' (A ++ m) → Below B W0 w' → w.heap.size ≤ w'.heap.size → wpList Tryz.prog ops Q rest (a.put o.dst v') w') : wpList Tryz.prog ops Q (o :: rest) a (w.alloc (.cells cs 5)) := by
  obtain ⟨ti, hi, hz0, hz1, hz2⟩ := info_parts byte_info
  subst hcs
  refine wpList_append_own _ hgd sl x 43 ho B 5 ti (.int .u8 0) 1 1 Tryz.underlying43 hi hz0 hz1 hz2 rfl (by decide) v _ _ hs (World.ownsRow.alloc hown _) ⟨w.heap.size, 0, none⟩ m.length c (bytesV m) hx (by rw [bytesV_length, Nat.mul_one])
    (by simpa using World.news_of_block (heap_alloc_new w (.cells (bytesV m).toArray 5))) (fun u hu => ?_) (by unfold maxLen; omega) (by omega) (by simp; omega) ?_
  · simp only [bytesV, List.mem_map] at hu
    obtain ⟨b, _, rfl⟩ := hu
    rfl
  · intro v' w' ho' hg' _
    have hsz : (w.alloc (.cells (bytesV m).toArray 5)).heap.size = w.heap.size + 1 := by simp
    have := hg'.size
    exact h v' w' (hown.more ho' rfl rfl) ((hbel.alloc hB _).grown hg' (by omega) (fun k e => (hown.lt k e).1)) (by omega)
/-- append(b, x, y, ..) as a step of a region that draws its order. -/
theorem step_app {K : Act → World → Prop} {E : Prop} {opsA : Array Oper} (sl x : Operand) (hgd : o.guard = none) (ho : o.op = .call { callee := .builtin .append, args := #[sl, x], argTypes := #[43, 43] })
    (hs : a.eval sl = v) (hown : OwnB w B v A) (m : List UInt8) (cs : Array Value) (hcs : cs = (bytesV m).toArray) (g : Nat) (hnew : w.heap[g]? = some (.cells cs 5)) (hx : a.eval x = .slice (some ⟨g, 0, none⟩) m.length c) (hlen : A.length + m.length ≤ 140737488355328) (hB : B ≤ w.heap.size) (hbel : Below B W0 w)
    (h : ∀ v' w', OwnB w' B v' (A ++ m) → Below B W0 w' → w.heap.size ≤ w'.heap.size → K (a.put o.dst v') w') : if Region.wanted o (yielded opsA a.tmps) = true then Oper.wp Tryz.prog o a w K Q else E := by
  obtain ⟨ti, hi, hz0, hz1, hz2⟩ := info_parts byte_info
  subst hcs
  have hw : Region.wanted o (yielded opsA a.tmps) = true := by simp [Region.wanted, hgd]
  rw [if_pos hw]
  refine wp_append_own w sl x 43 ho B 5 ti (.int .u8 0) 1 1 Tryz.underlying43 hi hz0 hz1 hz2 rfl (by decide) v _ _ hs hown ⟨g, 0, none⟩ m.length c (bytesV m) hx (by rw [bytesV_length, Nat.mul_one])
    (by simpa using World.news_of_block hnew) (fun u hu => ?_) (by unfold maxLen; omega) (by omega) hB ?_
  · simp only [bytesV, List.mem_map] at hu
    obtain ⟨b, _, rfl⟩ := hu
    rfl
  · intro v' w' ho' hg' _
    exact h v' w' (hown.more ho' rfl rfl) (hbel.trans (own_below hown hg' hB)) hg'.size
end
theorem OwnB.below {w w' : World} {B : Nat} {v : Value} {l : List UInt8} (h : OwnB w B v l) (hb : Below w.heap.size w w') : OwnB w' B v l := by
  refine World.ownsRow.kept h (only_of_below hb none) ?_
  cases v.ownBlock with
  | none => exact .inl rfl
  | some g => exact .inr (by simp)

theorem size_list (s : ByteArray) : s.size = s.data.toList.length := Lib.size_eq s
theorem extract_list (s : ByteArray) (a b : Nat) : (s.extract a b).data.toList = (s.data.toList.take b).drop a := by
  rw [Lib.extract_data, ← List.drop_take]
theorem own_bytes {w : World} {B : Nat} {v : Value} {l : List UInt8} (h : OwnB w B v l) : (v = .slice none 0 0 ∧ l = []) ∨ ∃ g c, v = .slice (some ⟨g, 0, none⟩) l.length c ∧ B ≤ g ∧ Lib.Bytes w g 0 ⟨l.toArray⟩ := by
  obtain ⟨hlen, h | ⟨g, cap, cur, rfl, hg, hc, hn, hcap, hsz, ht⟩⟩ := h
  · exact .inl ⟨h.1, List.length_eq_zero_iff.1 h.2⟩
  · refine .inr ⟨g, cap, rfl, hg, fun i hi => ?_⟩
    have hi' : i < l.length := by simpa [ByteArray.size] using hi
    rw [show w.cell? ⟨g, 0 + i, none⟩ = cur[0 + i]? by simp [World.cell?, hc], Nat.zero_add]
    rw [Nat.mul_one] at ht
    have h1 : cur.toList[i]? = (bytesV l)[i]? := by
      rw [← ht, List.getElem?_take, if_pos hi']
    rw [← Array.getElem?_toList, h1]
    simp only [bytesV, List.getElem?_map]
    rw [List.getElem?_eq_getElem hi']
    rfl
/-- string(b), b the call's own bytes. -/
theorem text_of_own {w : World} {B : Nat} {v : Value} {l : List UInt8} (h : OwnB w B v l) : (convert 43 9 v).run Tryz.prog w = .ok (.string ⟨l.toArray⟩) w := by
  rcases own_bytes h with ⟨rfl, rfl⟩ | ⟨g, c, rfl, -, hb⟩
  · exact Lib.run_convert_nil_bytes w 43 9 5 0 Tryz.underlying43 Tryz.underlying5 Tryz.underlying9
  · have := Lib.run_convert_whole (P := Tryz.prog) w 43 5 9 Tryz.underlying43 Tryz.underlying5 Tryz.underlying9 g 0 ⟨l.toArray⟩ hb c
    simpa [ByteArray.size] using this

theorem grown_g {a b c : World} {row : Option Nat} (h : a.grownBy b row) (k : b.grownBy c row) : a.grownBy c row :=
  ⟨k.os.trans h.os, k.tape.trans h.tape, k.output.trans h.output, Nat.le_trans h.size k.size, fun i hi hr => (k.block i (Nat.lt_of_lt_of_le hi h.size) hr).trans (h.block i hi hr)⟩

theorem OwnB.drewN {w : World} {B : Nat} {v : Value} {l : List UInt8} (h : OwnB w B v l) (n : Nat) : OwnB (w.drewN n) B v l := h
theorem OwnB.kept_g {w w' : World} {g B : Nat} {v : Value} {l : List UInt8} (h : OwnB w B v l) (hg : w.grownBy w' (some g)) (hB : g < B) : OwnB w' B v l :=
  World.ownsRow.kept h hg (.inr (fun e => by have := (h.lt g e).1; omega))
theorem grown_below {a b c : World} {row : Option Nat} (h : a.grownBy b row) (k : Below a.heap.size b c) : a.grownBy c row :=
  ⟨k.os.trans h.os, k.tape.trans h.tape, k.output.trans h.output, Nat.le_trans h.size k.size, fun i hi hr => (k.block i hi).trans (h.block i hi hr)⟩
theorem meas {S a b c d : Nat} (e1 : a = b) (e2 : c = d) (h : d < b) (hd : d < S) : S - a < S - c := by omega
theorem below_g {w w' : World} {g : Nat} (hg : w.grownBy w' (some g)) (hl : g ≤ w.heap.size) : Below g w w' :=
  ⟨hg.os, hg.tape, hg.output, hg.size, fun k hk => hg.block k (by omega) (fun e => by cases e; omega)⟩

end Go.Proofs.YtdbnconphcaclaaGreatDoor
