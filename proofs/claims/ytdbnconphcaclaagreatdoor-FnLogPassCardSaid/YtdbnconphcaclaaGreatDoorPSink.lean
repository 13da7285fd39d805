/-
  impl's lines: what is written is kept; zerolog's LevelWriterAdapter over them. Conditions: as each theorem says.
-/
import Derived.Test.YtdbnconphcaclaaGreatDoorPApp
namespace Go.Proofs.YtdbnconphcaclaaGreatDoor
open Go.RowKit
set_option linter.unusedVariables false

def strV (l : List ByteArray) : List Value := l.map Value.string
theorem strV_length (l : List ByteArray) : (strV l).length = l.length := by simp [strV]
theorem strV_snoc (l : List ByteArray) (s : ByteArray) : strV (l ++ [s]) = strV l ++ [.string s] := by simp [strV]
theorem str_info : (Tryz.prog.info? 9).map (fun i => (i.zero, i.size, i.bytes)) = some (some (.string ⟨#[]⟩), 1, 16) := by kernel_rfl

section
variable {ops : Array Oper} {rest : List Oper} {o : Oper} {a : Act} {Q : Exit → Act → World → Prop} {w : World} {B n c : Nat} {v u z : Value} {xs : List Value}
/-- append(v, u) on a row of the call's own, of one cell an element. -/
theorem app1 (t e : TypeId) (bytes g : Nat) (ht : Tryz.prog.underlying t = some (.slice e)) (hinfo : (Tryz.prog.info? e).map (fun i => (i.zero, i.size, i.bytes)) = some (some z, 1, bytes)) (hz1 : z.cells.size = 1) (hby : bytes ≤ 100)
    (sl x : Operand) (hgd : o.guard = none) (ho : o.op = .call { callee := .builtin .append, args := #[sl, x], argTypes := #[t, t] })
    (hs : a.eval sl = v) (hown : w.ownsRow B e 1 v n xs) (hg : g = w.heap.size) (hx : a.eval x = .slice (some ⟨g, 0, none⟩) 1 c) (hu : u.oneCell' = true) (hn : n ≤ 100000) (hB : B ≤ w.heap.size)
    (h : ∀ v' w', w'.ownsRow B e 1 v' (n + 1) (xs ++ [u]) → (w.alloc (.cells #[u] e)).grownBy w' v.ownBlock → (v'.ownBlock = v.ownBlock ∨ v'.ownBlock = some (w.heap.size + 1)) → wpList Tryz.prog ops Q rest (a.put o.dst v') w') : wpList Tryz.prog ops Q (o :: rest) a (w.alloc (.cells #[u] e)) := by
  subst hg
  obtain ⟨ti, hi, hz0, hz, hz2⟩ := info_parts hinfo
  refine wpList_append_any _ hgd sl x t ho B e ti z 1 bytes ht hi hz0 hz hz2 hz1 (by decide) v n xs hs (World.ownsRow.alloc hown _) (w.heap.size + 1) (some ⟨w.heap.size, 0, none⟩) 1 c [u] hx ⟨rfl, fun _ => ⟨_, rfl, by simp, ?_⟩⟩ (fun y hy => by simp at hy; subst hy; exact hu) (by unfold maxLen; omega) (by have := Nat.mul_le_mul_left (n + 1) hby; omega) (by simp; omega) ?_
  · intro j y hy
    have hj : j = 0 := by
      have := (List.getElem?_eq_some_iff.1 hy).1
      simpa using this
    subst hj
    simp at hy
    subst hy
    exact (Blk.new w e #[u]).cell 0
  · intro v' w' h1 h2 h3
    exact h v' w' h1 h2 (by simpa using h3)
/-- The same as a step of a region that draws its order. -/
theorem step1 {K : Act → World → Prop} {E : Prop} {opsA : Array Oper} (t e : TypeId) (bytes g : Nat) (ht : Tryz.prog.underlying t = some (.slice e)) (hinfo : (Tryz.prog.info? e).map (fun i => (i.zero, i.size, i.bytes)) = some (some z, 1, bytes)) (hz1 : z.cells.size = 1) (hby : bytes ≤ 100)
    (sl x : Operand) (hgd : o.guard = none) (ho : o.op = .call { callee := .builtin .append, args := #[sl, x], argTypes := #[t, t] })
    (hs : a.eval sl = v) (hown : w.ownsRow B e 1 v n xs) (hx : a.eval x = .slice (some ⟨g, 0, none⟩) 1 c) (hg : w.cell? ⟨g, 0, none⟩ = some u) (hgl : g < w.heap.size) (hu : u.oneCell' = true) (hn : n ≤ 100000) (hB : B ≤ w.heap.size)
    (h : ∀ v' w', w'.ownsRow B e 1 v' (n + 1) (xs ++ [u]) → w.grownBy w' v.ownBlock → (v'.ownBlock = v.ownBlock ∨ v'.ownBlock = some w.heap.size) → K (a.put o.dst v') w') : if Region.wanted o (yielded opsA a.tmps) = true then Oper.wp Tryz.prog o a w K Q else E := by
  obtain ⟨ti, hi, hz0, hz, hz2⟩ := info_parts hinfo
  refine step_append_any w hgd sl x t ho B e ti z 1 bytes ht hi hz0 hz hz2 hz1 (by decide) v n xs hs hown w.heap.size (some ⟨g, 0, none⟩) 1 c [u] hx ⟨rfl, fun _ => ⟨_, rfl, hgl, ?_⟩⟩ (fun y hy => by simp at hy; subst hy; exact hu) (by unfold maxLen; omega) (by have := Nat.mul_le_mul_left (n + 1) hby; omega) hB h
  intro j y hy
  have hj : j = 0 := by
    have := (List.getElem?_eq_some_iff.1 hy).1
    simpa using this
  subst hj
  simp at hy
  subst hy
  exact hg
end

/-- impl's lines at block b: its row is v, its texts xs. -/
def Sink (w : World) (B b : Nat) (v : Value) (xs : List ByteArray) : Prop := Blk w b 27 #[v] ∧ w.ownsRow B 9 1 v xs.length (strV xs) ∧ B ≤ b
theorem Sink.ne {w : World} {B b : Nat} {v : Value} {xs : List ByteArray} (h : Sink w B b v xs) : v.ownBlock ≠ some b := own_blk_ne h.2.1 h.1 (by decide)
/-- What a write to the sink at b, its row v, leaves alone. -/
def Kept (w w' : World) (b : Nat) (v : Value) : Prop := w'.os = w.os ∧ w'.tape = w.tape ∧ w'.output = w.output ∧ w.heap.size ≤ w'.heap.size ∧ ∀ i, i < w.heap.size → i ≠ b → some i ≠ v.ownBlock → w'.heap[i]? = w.heap[i]?

theorem sink_blk {w w2 : World} {B b : Nat} {v : Value} {xs : List ByteArray} {o : Obj} (h : Sink w B b v xs) (hg : (w.drew.alloc o).grownBy w2 v.ownBlock) : Blk w2 b 27 #[v] :=
  ((show Blk w.drew b _ _ from h.1).alloc o).grown hg (fun e => h.ne e.symm)
theorem sink_done {w2 : World} {B b n : Nat} {v v2 : Value} {xs : List ByteArray} {s : ByteArray} {w : World} (h : Sink w B b v xs) (ho : w2.ownsRow B 9 1 v2 n (strV xs ++ [.string s])) (hb : Blk w2 b 27 #[v]) : Sink (w2.setCell ⟨b, 0, none⟩ v2) B b v2 (xs ++ [s]) := by
  have hn : n = xs.length + 1 := by
    have := ho.1
    simp [strV] at this
    omega
  subst hn
  have hne : v2.ownBlock ≠ some b := own_blk_ne ho hb (by decide)
  refine ⟨by simpa using hb.set_ 0 v2, ?_, h.2.2⟩
  rw [strV_snoc, List.length_append]
  exact World.ownsRow.kept ho (only_setCell (World.grownBy.refl w2 (some b)) (.inl rfl) v2) (.inr hne)
theorem sink_kept {w w2 : World} {B b : Nat} {v v2 : Value} {xs : List ByteArray} {o : Obj} (h : Sink w B b v xs) (hg : (w.drew.alloc o).grownBy w2 v.ownBlock) : Kept w (w2.setCell ⟨b, 0, none⟩ v2) b v := by
  have hs := hg.size
  simp at hs
  refine ⟨hg.os, hg.tape, hg.output, by simp [World.setCell]; omega, fun i hi hib hiv => ?_⟩
  rw [Below.heap_setCell w2 ⟨b, 0, none⟩ v2 i hib, hg.block i (by simp; omega) hiv, Below.heap_alloc w.drew o i hi]
  rfl

set_option maxRecDepth 100000 in
set_option maxHeartbeats 1000000 in
theorem write_sink (B b : Nat) (v : Value) (xs : List ByteArray) (s : ByteArray) (P : Option Addr) (n c : Nat) (w : World) (hs : Sink w B b v xs) (hx : xs.length ≤ 1000) (hB : B ≤ w.heap.size) (hcv : (convert 43 9 (.slice P n c)).run Tryz.prog w.drew = .ok (.string s) w.drew) (hn : n ≤ 1000) :
    Calls Tryz.prog 72 #[.pointer (some ⟨b, 0, none⟩), .slice P n c] w fun e w' => e = .returned (.tuple #[.int .i64 n, .nilIface]) ∧ ∃ v', Sink w' B b v' (xs ++ [s]) ∧ Kept w w' b v ∧ (v'.ownBlock = v.ownBlock ∨ ∃ g, v'.ownBlock = some g ∧ w.heap.size ≤ g) := by
  have hb := hs.1.cell 0
  have hf := hs.1.frozen 0
  simp at hb
  have hba : ∀ o, (w.alloc o).cell? ⟨b, 0, none⟩ = some v := fun o => by rw [World.cell?_alloc_lt w o ⟨b, 0, none⟩ hs.1.lt]; exact hb
  have HS := Lib.hid hs
  clear hs
  go_enter Tryz.func72, Tryz.ntmps72
  go_wp2
  go_region_law (refine step1 (B := B) (u := .string s) 25 9 16 w.heap.size Tryz.underlying25 str_info rfl (by decide) _ _ rfl rfl rfl (World.ownsRow.alloc (show w.drew.ownsRow _ _ _ _ _ _ from HS.out.2.1) _) rfl ((Blk.new w.drew _ _).cell 0) (by simp) rfl (by omega) (by simp; omega) ?_; intro v2 w2 ho2 hg2 hr2; have hb2 := sink_blk HS.out hg2; have c2 := hb2.cell 0; have f2 := hb2.frozen 0; simp at c2; obtain ⟨A2, cp2, rfl⟩ := own_slice ho2; have H2 := Lib.hid (And.intro ho2 (And.intro hg2 (And.intro hr2 hb2))); clear ho2 hg2 hr2 hb2)
  all_goals go_wp2
  all_goals go_ret2
  all_goals refine ⟨rfl, _, sink_done HS.out H2.out.1 H2.out.2.2.2, sink_kept HS.out (o := .cells #[.string s] 9) H2.out.2.1, ?_⟩
  all_goals rcases H2.out.2.2.1 with h | h
  all_goals first | exact .inl h | exact .inr ⟨_, h, by simp⟩
theorem method_write (a : Addr) (w : World) : (method 315 24 (.pointer (some a)) "Write").run Tryz.prog w = .ok (72, .pointer (some a)) w := by kernel_rfl
theorem Sink.alloc {w : World} {B b : Nat} {v : Value} {xs : List ByteArray} (h : Sink w B b v xs) (o : Obj) : Sink (w.alloc o) B b v xs := ⟨h.1.alloc o, World.ownsRow.alloc h.2.1 o, h.2.2⟩
/-- The first write. -/
def First (b : Nat) (w' : World) : Prop := ∃ A c n, Blk w' b 27 #[.slice A n c] ∧ 1 ≤ n
set_option maxRecDepth 100000 in
theorem adapter_any (B b B2 : Nat) (A : List UInt8) (v : Value) (l : Int) (w : World) (hs : Sink w B b (.slice none 0 0) []) (hB : B ≤ w.heap.size) (hp : OwnB w B2 v A) (hn : A.length ≤ 1000) :
    Calls Tryz.prog 137 #[.agg #[.iface 24 (.pointer (some ⟨b, 0, none⟩))], .int .i8 l, v] w fun e w' => (∃ x, e = .returned (.tuple #[x, .nilIface])) ∧ First b w' ∧ Kept w w' b (.slice none 0 0) := by
  obtain ⟨A0, c0, rfl⟩ := own_slice hp
  have H := Lib.hid (And.intro hs hp)
  have hm := method_write ⟨b, 0, none⟩
  clear hs hp
  go_enter Tryz.func137, Tryz.ntmps137
  go_wp2_with (go_at_call 72; refine (write_sink B b (.slice none 0 0) [] ⟨A.toArray⟩ A0 A.length c0 _ (H.out.1.alloc _) (by simp) (by simp; omega) (text_of_own (show OwnB _ B2 _ A from H.out.2.alloc _)) hn).mono ?_; rintro e w1 ⟨rfl, v', h1, h2, -⟩; have H1 := Lib.hid (And.intro h1 h2); clear h1 h2)
  go_ret2
  obtain ⟨⟨h1, h2, -⟩, h3⟩ := H1.out
  obtain ⟨A5, c5, rfl⟩ := own_slice h2
  refine ⟨⟨_, rfl⟩, ⟨A5, c5, _, h1, by simp⟩, ?_⟩
  obtain ⟨q1, q2, q3, q4, q5⟩ := h3
  simp at q4
  exact ⟨q1, q2, q3, by omega, fun i hi hb hv => (q5 i (by simp; omega) hb hv).trans (Below.heap_alloc w _ i hi)⟩
end Go.Proofs.YtdbnconphcaclaaGreatDoor
