/-
  Lists of texts, and impl's lines: what is written is kept, text by text. Conditions: as each theorem says.
-/
import Derived.Test.YtdbnconphcaclaaDoorOps
namespace Go.Proofs.YtdbnconphcaclaaDoor
open Go.RowKit
set_option linter.unusedVariables false

def strV (l : List ByteArray) : List Value := l.map Value.string
theorem strV_length (l : List ByteArray) : (strV l).length = l.length := by simp [strV]
theorem strV_snoc (l : List ByteArray) (s : ByteArray) : strV (l ++ [s]) = strV l ++ [.string s] := by simp [strV]
theorem str_info : (Tryd.prog.info? 9).map (fun i => (i.zero, i.size, i.bytes)) = some (some (.string ⟨#[]⟩), 1, 16) := by kernel_rfl

section
variable {ops : Array Oper} {rest : List Oper} {o : Oper} {a : Act} {Q : Exit → Act → World → Prop} {w : World} {B n c : Nat} {v u z : Value} {xs : List Value}
/-- append(v, u) on a row of the call's own, of one cell an element. -/
theorem app1 (t e : TypeId) (bytes g : Nat) (ht : Tryd.prog.underlying t = some (.slice e)) (hinfo : (Tryd.prog.info? e).map (fun i => (i.zero, i.size, i.bytes)) = some (some z, 1, bytes)) (hz1 : z.cells.size = 1) (hby : bytes ≤ 100)
    (sl x : Operand) (hgd : o.guard = none) (ho : o.op = .call { callee := .builtin .append, args := #[sl, x], argTypes := #[t, t] })
    (hs : a.eval sl = v) (hown : w.ownsRow B e 1 v n xs) (hg : g = w.heap.size) (hx : a.eval x = .slice (some ⟨g, 0, none⟩) 1 c) (hu : u.oneCell' = true) (hn : n ≤ 100000) (hB : B ≤ w.heap.size)
    (h : ∀ v' w', w'.ownsRow B e 1 v' (n + 1) (xs ++ [u]) → (w.alloc (.cells #[u] e)).grownBy w' v.ownBlock → (v'.ownBlock = v.ownBlock ∨ v'.ownBlock = some (w.heap.size + 1)) → wpList Tryd.prog ops Q rest (a.put o.dst v') w') : wpList Tryd.prog ops Q (o :: rest) a (w.alloc (.cells #[u] e)) := by
  subst hg
  obtain ⟨ti, hi, hz0, hz, hz2⟩ := info_parts hinfo
  refine wpList_append_any _ hgd sl x t ho B e ti z 1 bytes ht hi hz0 hz hz2 hz1 (by decide) v n xs hs (World.ownsRow.alloc hown _) (w.heap.size + 1) (some ⟨w.heap.size, 0, none⟩) 1 c [u] hx ⟨rfl, fun _ => ⟨_, rfl, by simp, ?_⟩⟩ (fun y hy => by simp at hy; subst hy; exact hu) (by unfold maxLen; omega) (by have := Nat.mul_le_mul_left (n + 1) hby; omega) (by simp; omega) ?_
  · intro j y hy
    have hj : j = 0 := by
      have := (List.getElem?_eq_some_iff.1 hy).1
      simpa using this
    subst hj
    simp at hy
    subst hy
    exact (Blk.new w e #[u]).cell 0
  · intro v' w' h1 h2 h3
    exact h v' w' h1 h2 (by simpa using h3)
/-- The same as a step of a region that draws its order. -/
theorem step1 {K : Act → World → Prop} {E : Prop} {opsA : Array Oper} (t e : TypeId) (bytes g : Nat) (ht : Tryd.prog.underlying t = some (.slice e)) (hinfo : (Tryd.prog.info? e).map (fun i => (i.zero, i.size, i.bytes)) = some (some z, 1, bytes)) (hz1 : z.cells.size = 1) (hby : bytes ≤ 100)
    (sl x : Operand) (hgd : o.guard = none) (ho : o.op = .call { callee := .builtin .append, args := #[sl, x], argTypes := #[t, t] })
    (hs : a.eval sl = v) (hown : w.ownsRow B e 1 v n xs) (hx : a.eval x = .slice (some ⟨g, 0, none⟩) 1 c) (hg : w.cell? ⟨g, 0, none⟩ = some u) (hgl : g < w.heap.size) (hu : u.oneCell' = true) (hn : n ≤ 100000) (hB : B ≤ w.heap.size)
    (h : ∀ v' w', w'.ownsRow B e 1 v' (n + 1) (xs ++ [u]) → w.grownBy w' v.ownBlock → (v'.ownBlock = v.ownBlock ∨ v'.ownBlock = some w.heap.size) → K (a.put o.dst v') w') : if Region.wanted o (yielded opsA a.tmps) = true then Oper.wp Tryd.prog o a w K Q else E := by
  obtain ⟨ti, hi, hz0, hz, hz2⟩ := info_parts hinfo
  refine step_append_any w hgd sl x t ho B e ti z 1 bytes ht hi hz0 hz hz2 hz1 (by decide) v n xs hs hown w.heap.size (some ⟨g, 0, none⟩) 1 c [u] hx ⟨rfl, fun _ => ⟨_, rfl, hgl, ?_⟩⟩ (fun y hy => by simp at hy; subst hy; exact hu) (by unfold maxLen; omega) (by have := Nat.mul_le_mul_left (n + 1) hby; omega) hB h
  intro j y hy
  have hj : j = 0 := by
    have := (List.getElem?_eq_some_iff.1 hy).1
    simpa using this
  subst hj
  simp at hy
  subst hy
  exact hg
end

def lFilt (lv : Int) (L : List OpR) : List ByteArray := (L.filter fun x => decide (lv ≤ x.lv)).map OpR.tx
theorem lFilt_take (lv : Int) (L : List OpR) (k : Nat) (x : OpR) (h : L[k]? = some x) : lFilt lv (L.take (k + 1)) = lFilt lv (L.take k) ++ (if lv ≤ x.lv then [x.tx] else []) := by
  have hk := (List.getElem?_eq_some_iff.1 h).1
  have hx := (List.getElem?_eq_some_iff.1 h).2
  unfold lFilt
  rw [List.take_succ_eq_append_getElem hk, List.filter_append, List.map_append, hx]
  congr 1
  by_cases hl : lv ≤ x.lv <;> simp [hl]

set_option maxRecDepth 100000 in
theorem lfiltered (lv : Int) (A : Option Addr) (c : Nat) (L : List OpR) (w : World) (h0 : -9223372036854775808 ≤ lv) (h1 : lv ≤ 9223372036854775807) (hL : L.length ≤ 40) (ho : OpsAt w w.heap.size A L) (hk : OpsOk L) :
    Calls Tryd.prog 24 #[.int .i64 lv, .slice A L.length c] w fun e w' => ∃ v, e = .returned v ∧ w'.ownsRow w.heap.size 9 1 v (lFilt lv L).length (strV (lFilt lv L)) ∧ Below w.heap.size w w' := by
  have H := Lib.hid (And.intro ho hk)
  clear ho hk
  go_enter Tryd.func24, Tryd.ntmps24
  go_wp2
  go_loopw [5, 10] (fun v i wr => ∃ k : Nat, k ≤ L.length ∧ i = .int .i64 k ∧ wr.ownsRow w.heap.size 9 1 v (lFilt lv (L.take k)).length (strV (lFilt lv (L.take k))) ∧ Below w.heap.size w wr) (fun _ i _ => L.length - (intOf i).toNat)
  case atStart => exact ⟨0, by omega, rfl, by simpa [lFilt, strV] using World.ownsRow_nil _ _ _ _, Below.refl _ _⟩
  case round =>
    obtain ⟨k, hkl, rfl, hown, hbel⟩ := hrel
    by_cases hlt : k < L.length
    · obtain ⟨b, o, x, hx, hx2, hA, hblk, c0, c1, c2, c3⟩ := (H.out.1.below hbel).at_ k hlt
      subst hA
      have hxo := H.out.2 x (List.mem_of_getElem? hx2)
      have htk := lFilt_take lv L k x hx2
      have hlen : (lFilt lv (L.take k)).length ≤ 40 := by
        unfold lFilt
        rw [List.length_map]
        exact Nat.le_trans (List.length_filter_le _ _) (by simp; omega)
      obtain ⟨l, s, t, cc⟩ := x
      simp only at c0 c1 c2 c3 hxo htk
      by_cases hl : lv ≤ l
      · rw [if_pos hl] at htk
        have HB := Lib.hid (And.intro hbel (And.intro htk hown))
        clear hbel htk hown hx hx2
        go_wp2_with (at_builtin; (refine app1 (B := w.heap.size) 30 9 16 (wr.heap.size + 1) Tryd.underlying30 str_info rfl (by decide) _ _ rfl rfl rfl (World.ownsRow.alloc HB.out.2.2 _) (by simp) rfl rfl (by omega) (by have := HB.out.1.size; simp; omega) ?_); intro v2 w2 ho2 hg2 hr2; have H2 := Lib.hid (And.intro ho2 (And.intro hg2 hr2)); clear ho2 hg2 hr2)
        go_roundw
        case rel => exact ⟨k + 1, hlt, by go_num, by rw [HB.out.2.1, strV_snoc, List.length_append]; exact H2.out.1, ((HB.out.1.alloc HB.out.1.size _).alloc (by have := HB.out.1.size; simp; omega) _).grown H2.out.2.1 (by have := HB.out.1.size; simp; omega) (fun g e => (HB.out.2.2.lt g e).1)⟩
        case measure => simp [intOf]; omega
      · rw [if_neg hl, List.append_nil] at htk
        have HB := Lib.hid (And.intro hbel (And.intro htk hown))
        clear hbel htk hown hx hx2
        go_wp2
        exact ⟨⟨k + 1, hlt, by go_num, by rw [HB.out.2.1]; exact World.ownsRow.alloc HB.out.2.2 _, HB.out.1.alloc HB.out.1.size _⟩, by simp [intOf]; omega⟩
    · have hk2 : k = L.length := by omega
      subst hk2
      rw [List.take_length] at hown
      go_wp2
      go_ret
      exact ⟨_, rfl, hown, hbel⟩

/-- Two lists of texts that are the same. -/
theorem ltexts (A : Option Addr) (B2 : Option Addr) (c c2 : Nat) (l : List ByteArray) (B : Nat) (w : World) (h1 : Reads w B 1 A l.length (strV l)) (h2 : Reads w B 1 B2 l.length (strV l)) (hl : l.length ≤ 40) :
    Calls Tryd.prog 23 #[.slice A l.length c, .slice B2 l.length c2] w fun e w' => e = .returned (.bool true) ∧ ∃ n, w' = w.drewN n := by
  have H := Lib.hid (And.intro h1 h2)
  clear h1 h2
  go_enter Tryd.func23, Tryd.ntmps23
  go_wp2
  go_loopw [13] (fun i wr => ∃ k n : Nat, k ≤ l.length ∧ i = .int .i64 k ∧ wr = w.drewN n) (fun i _ => l.length - (intOf i).toNat)
  case atStart => exact ⟨0, 0, by omega, rfl, rfl⟩
  case round =>
    obtain ⟨k, m, hkl, rfl, rfl⟩ := hrel
    by_cases hlt : k < l.length
    · obtain ⟨a1, u1, hA, -, hu1, hc1⟩ := (H.out.1.drewN m).at_ hlt
      obtain ⟨a2, u2', hB, -, hu2, hc2⟩ := (H.out.2.drewN m).at_ hlt
      obtain ⟨s, hs⟩ : ∃ s, s = l[k] := ⟨_, rfl⟩
      have e1 : u1 = .string s := by rw [strV, List.getElem?_map, List.getElem?_eq_getElem hlt] at hu1; rw [hs]; exact (Option.some.inj hu1).symm
      have e2 : u2' = .string s := by rw [strV, List.getElem?_map, List.getElem?_eq_getElem hlt] at hu2; rw [hs]; exact (Option.some.inj hu2).symm
      subst hA hB e1 e2
      have es : (s.toList == s.toList) = true := by simp
      have hw1 : w.cell? (a1.add k) = some (.string s) := hc1
      have hw2 : w.cell? (a2.add k) = some (.string s) := hc2
      clear hu1 hu2 hs
      go_wp2
      go_quiet (fail)
      go_wp2
      go_roundw
      case rel => exact ⟨k + 1, _, hlt, by go_num, rfl⟩
      case measure => simp [intOf]; omega
    · go_wp2
      go_ret
      exact ⟨rfl, m, rfl⟩

/-- impl's lines at block b: its row is v, its texts xs. -/
def Sink (w : World) (B b : Nat) (v : Value) (xs : List ByteArray) : Prop := Blk w b 81 #[v] ∧ w.ownsRow B 9 1 v xs.length (strV xs) ∧ B ≤ b
theorem Sink.ne {w : World} {B b : Nat} {v : Value} {xs : List ByteArray} (h : Sink w B b v xs) : v.ownBlock ≠ some b := own_blk_ne h.2.1 h.1 (by decide)
/-- What a write to the sink at b, its row v, leaves alone. -/
def Kept (w w' : World) (b : Nat) (v : Value) : Prop := w'.os = w.os ∧ w'.tape = w.tape ∧ w'.output = w.output ∧ w.heap.size ≤ w'.heap.size ∧ ∀ i, i < w.heap.size → i ≠ b → some i ≠ v.ownBlock → w'.heap[i]? = w.heap[i]?

theorem sink_blk {w w2 : World} {B b : Nat} {v : Value} {xs : List ByteArray} {o : Obj} (h : Sink w B b v xs) (hg : (w.drew.alloc o).grownBy w2 v.ownBlock) : Blk w2 b 81 #[v] :=
  ((show Blk w.drew b _ _ from h.1).alloc o).grown hg (fun e => h.ne e.symm)
theorem sink_done {w2 : World} {B b n : Nat} {v v2 : Value} {xs : List ByteArray} {s : ByteArray} {w : World} (h : Sink w B b v xs) (ho : w2.ownsRow B 9 1 v2 n (strV xs ++ [.string s])) (hb : Blk w2 b 81 #[v]) : Sink (w2.setCell ⟨b, 0, none⟩ v2) B b v2 (xs ++ [s]) := by
  have hn : n = xs.length + 1 := by
    have := ho.1
    simp [strV] at this
    omega
  subst hn
  have hne : v2.ownBlock ≠ some b := own_blk_ne ho hb (by decide)
  refine ⟨by simpa using hb.set_ 0 v2, ?_, h.2.2⟩
  rw [strV_snoc, List.length_append]
  exact World.ownsRow.kept ho (only_setCell (World.grownBy.refl w2 (some b)) (.inl rfl) v2) (.inr hne)
theorem sink_kept {w w2 : World} {B b : Nat} {v v2 : Value} {xs : List ByteArray} {o : Obj} (h : Sink w B b v xs) (hg : (w.drew.alloc o).grownBy w2 v.ownBlock) : Kept w (w2.setCell ⟨b, 0, none⟩ v2) b v := by
  have hs := hg.size
  simp at hs
  refine ⟨hg.os, hg.tape, hg.output, by simp [World.setCell]; omega, fun i hi hib hiv => ?_⟩
  rw [Below.heap_setCell w2 ⟨b, 0, none⟩ v2 i hib, hg.block i (by simp; omega) hiv, Below.heap_alloc w.drew o i hi]
  rfl

set_option maxRecDepth 100000 in
set_option maxHeartbeats 1000000 in
theorem write_sink (B b : Nat) (v : Value) (xs : List ByteArray) (s : ByteArray) (P : Option Addr) (n c : Nat) (w : World) (hs : Sink w B b v xs) (hx : xs.length ≤ 1000) (hB : B ≤ w.heap.size) (hcv : (convert 29 9 (.slice P n c)).run Tryd.prog w.drew = .ok (.string s) w.drew) (hn : n ≤ 1000) :
    Calls Tryd.prog 163 #[.pointer (some ⟨b, 0, none⟩), .slice P n c] w fun e w' => e = .returned (.tuple #[.int .i64 n, .nilIface]) ∧ ∃ v', Sink w' B b v' (xs ++ [s]) ∧ Kept w w' b v ∧ (v'.ownBlock = v.ownBlock ∨ ∃ g, v'.ownBlock = some g ∧ w.heap.size ≤ g) := by
  have hb := hs.1.cell 0
  have hf := hs.1.frozen 0
  simp at hb
  have hba : ∀ o, (w.alloc o).cell? ⟨b, 0, none⟩ = some v := fun o => by rw [World.cell?_alloc_lt w o ⟨b, 0, none⟩ hs.1.lt]; exact hb
  have HS := Lib.hid hs
  clear hs
  go_enter Tryd.func163, Tryd.ntmps163
  go_wp2
  go_region_law (refine step1 (B := B) (u := .string s) 30 9 16 w.heap.size Tryd.underlying30 str_info rfl (by decide) _ _ rfl rfl rfl (World.ownsRow.alloc (show w.drew.ownsRow _ _ _ _ _ _ from HS.out.2.1) _) rfl ((Blk.new w.drew _ _).cell 0) (by simp) rfl (by omega) (by simp; omega) ?_; intro v2 w2 ho2 hg2 hr2; have hb2 := sink_blk HS.out hg2; have c2 := hb2.cell 0; have f2 := hb2.frozen 0; simp at c2; obtain ⟨A2, cp2, rfl⟩ := own_slice ho2; have H2 := Lib.hid (And.intro ho2 (And.intro hg2 (And.intro hr2 hb2))); clear ho2 hg2 hr2 hb2)
  all_goals go_wp2
  all_goals go_ret2
  all_goals refine ⟨rfl, _, sink_done HS.out H2.out.1 H2.out.2.2.2, sink_kept HS.out (o := .cells #[.string s] 9) H2.out.2.1, ?_⟩
  all_goals rcases H2.out.2.2.1 with h | h
  all_goals first | exact .inl h | exact .inr ⟨_, h, by simp⟩
end Go.Proofs.YtdbnconphcaclaaDoor
