/-
  spec.LTriggered: what comes out of a list of operations. Conditions: as the theorem says.
-/
import Derived.Test.YtdbnconphcaclaaDoorTrig4
namespace Go.Proofs.YtdbnconphcaclaaDoor
open Go.RowKit
set_option linter.unusedVariables false

section
variable {ops : Array Oper} {rest : List Oper} {o : Oper} {a : Act} {Q : Exit → Act → World → Prop} {w : World} {B n m : Nat} {v u : Value} {xs ys : List Value}
/-- append(v, u...) on two rows of texts of the call's own. -/
theorem app_row (sl x : Operand) (hgd : o.guard = none) (ho : o.op = .call { callee := .builtin .append, args := #[sl, x], argTypes := #[30, 30] })
    (hs : a.eval sl = v) (hown : w.ownsRow B 9 1 v n xs) (hx : a.eval x = u) (hu : w.ownsRow B 9 1 u m ys) (h1 : ∀ y ∈ ys, y.oneCell' = true) (hn : n + m ≤ 100000) (hB : B ≤ w.heap.size)
    (h : ∀ v' w', w'.ownsRow B 9 1 v' (n + m) (xs ++ ys) → w.grownBy w' v.ownBlock → (v'.ownBlock = v.ownBlock ∨ v'.ownBlock = some w.heap.size) → wpList Tryd.prog ops Q rest (a.put o.dst v') w') : wpList Tryd.prog ops Q (o :: rest) a w := by
  obtain ⟨A, c, rfl⟩ := own_slice hu
  obtain ⟨ti, hi, hz0, hz, hz2⟩ := info_parts str_info
  exact wpList_append_any _ hgd sl x 30 ho B 9 ti (.string ⟨#[]⟩) 1 16 Tryd.underlying30 hi hz0 hz hz2 rfl (by decide) v n xs hs hown w.heap.size A m c ys hx (Reads.of_own hu) h1 (by unfold maxLen; omega) (by omega) hB h
end
theorem strV_one (l : List ByteArray) : ∀ y ∈ strV l, y.oneCell' = true := by
  intro y hy
  obtain ⟨x, -, rfl⟩ := List.mem_map.1 hy
  rfl
theorem strV_append (l m : List ByteArray) : strV (l ++ m) = strV l ++ strV m := by simp [strV]
/-- Two rows of texts of the call's own, apart. -/
def Rows2 (w : World) (B : Nat) (v u : Value) (ys ws : List ByteArray) : Prop := w.ownsRow B 9 1 v ys.length (strV ys) ∧ w.ownsRow B 9 1 u ws.length (strV ws) ∧ (u.ownBlock = none ∨ u.ownBlock ≠ v.ownBlock)
theorem Rows2.alloc {w : World} {B : Nat} {v u : Value} {ys ws : List ByteArray} (h : Rows2 w B v u ys ws) (o : Obj) : Rows2 (w.alloc o) B v u ys ws := ⟨World.ownsRow.alloc h.1 o, World.ownsRow.alloc h.2.1 o, h.2.2⟩
theorem Rows2.out {w w2 : World} {B : Nat} {v u v2 : Value} {ys ws : List ByteArray} {x : ByteArray} (h : Rows2 w B v u ys ws) (ho : w2.ownsRow B 9 1 v2 (ys.length + 1) (strV ys ++ [.string x])) (hg : w.grownBy w2 v.ownBlock) (hr : v2.ownBlock = v.ownBlock ∨ ∃ g, v2.ownBlock = some g ∧ w.heap.size ≤ g) : Rows2 w2 B v2 u (ys ++ [x]) ws := by
  refine ⟨by rw [strV_snoc, List.length_append]; exact ho, World.ownsRow.kept h.2.1 hg h.2.2, ?_⟩
  rcases hr with hr | ⟨g, hr, hlt⟩
  · rw [hr]
    exact h.2.2
  · rw [hr]
    cases hu : u.ownBlock with
    | none => exact .inl rfl
    | some q =>
      refine .inr (fun e => ?_)
      injection e with e
      have := (h.2.1.lt q hu).2
      omega
theorem Rows2.wait {w w2 : World} {B : Nat} {v u u2 : Value} {ys ws : List ByteArray} {x : ByteArray} (h : Rows2 w B v u ys ws) (ho : w2.ownsRow B 9 1 u2 (ws.length + 1) (strV ws ++ [.string x])) (hg : w.grownBy w2 u.ownBlock) (hr : u2.ownBlock = u.ownBlock ∨ ∃ g, u2.ownBlock = some g ∧ w.heap.size ≤ g) : Rows2 w2 B v u2 ys (ws ++ [x]) := by
  have hvu : v.ownBlock = none ∨ v.ownBlock ≠ u.ownBlock := by
    rcases h.2.2 with e | e
    · rw [e]
      cases v.ownBlock with
      | none => exact .inl rfl
      | some g => exact .inr (by simp)
    · exact .inr (fun q => e q.symm)
  refine ⟨World.ownsRow.kept h.1 hg hvu, by rw [strV_snoc, List.length_append]; exact ho, ?_⟩
  rcases hr with hr | ⟨g, hr, hlt⟩
  · rw [hr]
    exact h.2.2
  · rw [hr]
    refine .inr (fun e => ?_)
    have := (h.1.lt g e.symm).2
    omega
theorem Rows2.flush {w2 : World} {B : Nat} {v2 : Value} {ys ws : List ByteArray} (ho : w2.ownsRow B 9 1 v2 (ys.length + ws.length) (strV ys ++ strV ws)) : Rows2 w2 B v2 (.slice none 0 0) (ys ++ ws) [] := by
  refine ⟨by rw [strV_append, List.length_append]; exact ho, World.ownsRow_nil _ _ _ _, .inl rfl⟩
/-- What the law tells of the operations. -/
def ClLast (L : List OpR) : Prop := ∀ (k : Nat) (x : OpR), L[k]? = some x → x.cl = true → k + 1 = L.length
theorem tRun_last {cond trig : Int} {L : List OpR} {k : Nat} {s : TS} (hk : k + 1 = L.length) (h : tRun cond trig (L.take (k + 1)) = s) : tRun cond trig L = s := by
  rwa [List.take_of_length_le (by omega)] at h
/-- What spec.LTriggered gives. -/
def TrigRet (cond trig : Int) (L : List OpR) (w : World) (e : Ending) (w' : World) : Prop := ∃ v, e = .returned v ∧ w'.ownsRow w.heap.size 9 1 v (tRun cond trig L).ys.length (strV (tRun cond trig L).ys) ∧ Below w.heap.size w w'
theorem trigRet_of {cond trig : Int} {L : List OpR} {w w' : World} {v u : Value} {ys ws : List ByteArray} {s : TS} (h : Rows2 w' w.heap.size v u ys ws) (hs : tRun cond trig L = s) (hy : s.ys = ys) (hb : Below w.heap.size w w') : TrigRet cond trig L w (.returned v) w' := by
  refine ⟨v, rfl, ?_, hb⟩
  rw [hs, hy]
  exact h.1
theorem step_b {w wr w2 : World} {B : Nat} {v : Value} {o1 o2 : Obj} {n : Nat} {xs : List Value} (hb : Below B w wr) (hB : B ≤ wr.heap.size) (hv : wr.ownsRow B 9 1 v n xs) (hg : ((wr.alloc o1).alloc o2).grownBy w2 v.ownBlock) : Below B w w2 :=
  ((hb.alloc hB o1).alloc (by simp; omega) o2).grown hg (by simp; omega) (fun g e => (hv.lt g e).1)
theorem step_f {w wr w2 : World} {B : Nat} {v : Value} {o1 : Obj} {n : Nat} {xs : List Value} (hb : Below B w wr) (hB : B ≤ wr.heap.size) (hv : wr.ownsRow B 9 1 v n xs) (hg : (wr.alloc o1).grownBy w2 v.ownBlock) : Below B w w2 :=
  (hb.alloc hB o1).grown hg (by simp; omega) (fun g e => (hv.lt g e).1)

set_option maxRecDepth 100000 in
set_option maxHeartbeats 1000000 in
theorem ltriggered (cond trig : Int) (A : Option Addr) (c : Nat) (L : List OpR) (w : World) (hL : L.length ≤ 40) (ho : OpsAt w w.heap.size A L) (hin : ∀ x ∈ L, LineOk x) (hcl : ClLast L) :
    Calls Tryd.prog 26 #[.int .i64 cond, .int .i64 trig, .slice A L.length c] w (TrigRet cond trig L w) := by
  have H := Lib.hid (And.intro ho (And.intro hin hcl))
  clear ho hin hcl
  go_enter Tryd.func26, Tryd.ntmps26
  go_wp2
  go_loopw [7, 8, 9, 14] (fun v u b i wr => ∃ k : Nat, k ≤ L.length ∧ i = .int .i64 k ∧ b = .bool (tRun cond trig (L.take k)).o ∧ Rows2 wr w.heap.size v u (tRun cond trig (L.take k)).ys ((tRun cond trig (L.take k)).ws.map (·.2)) ∧ Below w.heap.size w wr) (fun _ _ _ i _ => L.length - (intOf i).toNat)
  case atStart => exact ⟨0, by omega, rfl, rfl, ⟨World.ownsRow_nil _ _ _ _, World.ownsRow_nil _ _ _ _, .inl rfl⟩, Below.refl _ _⟩
  case round =>
    obtain ⟨k, hkl, rfl, rfl, hrows, hbel⟩ := hrel
    by_cases hlt : k < L.length
    · obtain ⟨b, o, x, hx, hx2, hA, hblk, c0, c1, c2, c3⟩ := (H.out.1.below hbel).at_ k hlt
      subst hA
      have hxo := H.out.2.1 x (List.mem_of_getElem? hx2)
      have hxc := H.out.2.2 k x hx2
      have htk := tRun_take cond trig L k x hx2
      have hlen := tRun_len cond trig L k hkl
      obtain ⟨s, hs⟩ : ∃ s, s = tRun cond trig (L.take k) := ⟨_, rfl⟩
      rw [← hs] at htk hlen hrows
      rw [← hs]
      obtain ⟨op, ys, ws⟩ := s
      obtain ⟨l, s, t, cc⟩ := x
      simp only at c0 c1 c2 c3 hlen hrows hxc
      obtain ⟨wsb, hwsb⟩ : ∃ wsb, wsb = ws.map (·.2) := ⟨_, rfl⟩
      have hwl : wsb.length = ws.length := by rw [hwsb]; simp
      rw [← hwsb] at hrows
      cases cc
      · cases t
        · by_cases d1 : trig ≤ l
          · cases op
            · have hst : tRun cond trig (L.take (k + 1)) = ⟨true, ys ++ wsb ++ [s], []⟩ := by rw [htk, hwsb]; simp [TS.op, TS.line, d1]
              have HB := Lib.hid (And.intro hrows (And.intro hbel (And.intro hst hbel.size)))
              clear hrows hbel hst htk hs hwsb hx hx2 hxo hxc
              go_wp2_with (first
                | (at_builtin; have _ := hone; refine app1 (B := w.heap.size) 30 9 16 w2.heap.size Tryd.underlying30 str_info rfl (by decide) _ _ rfl rfl rfl H2.out.1.1 rfl rfl rfl (by simp; omega) (by have := H2.out.2.1; omega) ?_; intro v3 w3 ho3 hg3 hr3; have H3 := Lib.hid (And.intro ho3 (And.intro hg3 hr3)); clear ho3 hg3 hr3)
                | (at_builtin; refine app_row _ _ rfl rfl rfl (HB.out.1.alloc _).1 rfl (HB.out.1.alloc _).2.1 (strV_one _) (by omega) (by have := HB.out.2.2.2; simp; omega) ?_; intro v2 w2 ho2 hg2 hr2; have hbk := Blk.grown (Blk.new wr 45 #[.int .i64 l, .string s, .bool false, .bool false]) hg2 (fun e => by have := (HB.out.1.1.lt _ e.symm).2; omega); have e1 := hbk.cell 1; simp at e1; have hone : 0 = 0 := rfl; have H2 := Lib.hid (And.intro (Rows2.flush ho2) (And.intro (Nat.le_trans HB.out.2.2.2 (Nat.le_trans (by simp) hg2.size)) hg2)); clear ho2 hg2 hr2 hbk))
              go_roundw
              case rel =>
                refine ⟨k + 1, hlt, by go_num, by rw [HB.out.2.2.1], ?_, ?_⟩
                · rw [HB.out.2.2.1]
                  exact Rows2.out (H2.out.1.alloc _) H3.out.1 H3.out.2.1 (by rcases H3.out.2.2 with h | h; exact .inl h; exact .inr ⟨_, h, by simp⟩)
                · exact ((step_f HB.out.2.1 HB.out.2.2.2 HB.out.1.1 H2.out.2.2).alloc H2.out.2.1 _).grown H3.out.2.1 (by have := H2.out.2.1; simp; omega) (fun g e => (H2.out.1.1.lt g e).1)
              case measure => simp [intOf]; omega
            · have hst : tRun cond trig (L.take (k + 1)) = ⟨true, ys ++ [s], ws⟩ := by rw [htk]; simp [TS.op, TS.line]
              have HB := Lib.hid (And.intro hrows (And.intro hbel (And.intro hst (And.intro hbel.size hwsb))))
              clear hrows hbel hst htk hs hwsb hx hx2 hxo hxc
              go_wp2_with (at_builtin; refine app1 (B := w.heap.size) 30 9 16 (wr.heap.size + 1) Tryd.underlying30 str_info rfl (by decide) _ _ rfl rfl rfl (HB.out.1.alloc _).1 (by simp) rfl rfl (by omega) (by have := HB.out.2.2.2.1; simp; omega) ?_; intro v3 w3 ho3 hg3 hr3; have H3 := Lib.hid (And.intro ho3 (And.intro hg3 hr3)); clear ho3 hg3 hr3)
              go_roundw
              case rel =>
                refine ⟨k + 1, hlt, by go_num, by rw [HB.out.2.2.1], ?_, step_b HB.out.2.1 HB.out.2.2.2.1 HB.out.1.1 H3.out.2.1⟩
                rw [HB.out.2.2.1, ← HB.out.2.2.2.2]
                exact Rows2.out ((HB.out.1.alloc _).alloc _) H3.out.1 H3.out.2.1 (by rcases H3.out.2.2 with h | h; exact .inl h; exact .inr ⟨_, h, by simp⟩)
              case measure => simp [intOf]; omega
          · cases op
            · by_cases d2 : cond < l
              · have hst : tRun cond trig (L.take (k + 1)) = ⟨false, ys ++ [s], ws⟩ := by rw [htk]; simp [TS.op, TS.line, d1, d2]
                have HB := Lib.hid (And.intro hrows (And.intro hbel (And.intro hst (And.intro hbel.size hwsb))))
                clear hrows hbel hst htk hs hwsb hx hx2 hxo hxc
                go_wp2_with (at_builtin; refine app1 (B := w.heap.size) 30 9 16 (wr.heap.size + 1) Tryd.underlying30 str_info rfl (by decide) _ _ rfl rfl rfl (HB.out.1.alloc _).1 (by simp) rfl rfl (by omega) (by have := HB.out.2.2.2.1; simp; omega) ?_; intro v3 w3 ho3 hg3 hr3; have H3 := Lib.hid (And.intro ho3 (And.intro hg3 hr3)); clear ho3 hg3 hr3)
                go_roundw
                case rel =>
                  refine ⟨k + 1, hlt, by go_num, by rw [HB.out.2.2.1], ?_, step_b HB.out.2.1 HB.out.2.2.2.1 HB.out.1.1 H3.out.2.1⟩
                  rw [HB.out.2.2.1, ← HB.out.2.2.2.2]
                  exact Rows2.out ((HB.out.1.alloc _).alloc _) H3.out.1 H3.out.2.1 (by rcases H3.out.2.2 with h | h; exact .inl h; exact .inr ⟨_, h, by simp⟩)
                case measure => simp [intOf]; omega
              · have hst : tRun cond trig (L.take (k + 1)) = ⟨false, ys, ws ++ [(l, s)]⟩ := by rw [htk]; simp [TS.op, TS.line, d1, d2]
                have HB := Lib.hid (And.intro hrows (And.intro hbel (And.intro hst (And.intro hbel.size hwsb))))
                clear hrows hbel hst htk hs hwsb hx hx2 hxo hxc
                go_wp2_with (at_builtin; refine app1 (B := w.heap.size) 30 9 16 (wr.heap.size + 1) Tryd.underlying30 str_info rfl (by decide) _ _ rfl rfl rfl (HB.out.1.alloc _).2.1 (by simp) rfl rfl (by omega) (by have := HB.out.2.2.2.1; simp; omega) ?_; intro v3 w3 ho3 hg3 hr3; have H3 := Lib.hid (And.intro ho3 (And.intro hg3 hr3)); clear ho3 hg3 hr3)
                go_roundw
                case rel =>
                  refine ⟨k + 1, hlt, by go_num, by rw [HB.out.2.2.1], ?_, step_b HB.out.2.1 HB.out.2.2.2.1 HB.out.1.2.1 H3.out.2.1⟩
                  rw [HB.out.2.2.1, List.map_append, ← HB.out.2.2.2.2]
                  exact Rows2.wait ((HB.out.1.alloc _).alloc _) H3.out.1 H3.out.2.1 (by rcases H3.out.2.2 with h | h; exact .inl h; exact .inr ⟨_, h, by simp⟩)
                case measure => simp [intOf]; omega
            · have hst : tRun cond trig (L.take (k + 1)) = ⟨true, ys ++ [s], ws⟩ := by rw [htk]; simp [TS.op, TS.line]
              have HB := Lib.hid (And.intro hrows (And.intro hbel (And.intro hst (And.intro hbel.size hwsb))))
              clear hrows hbel hst htk hs hwsb hx hx2 hxo hxc
              go_wp2_with (at_builtin; refine app1 (B := w.heap.size) 30 9 16 (wr.heap.size + 1) Tryd.underlying30 str_info rfl (by decide) _ _ rfl rfl rfl (HB.out.1.alloc _).1 (by simp) rfl rfl (by omega) (by have := HB.out.2.2.2.1; simp; omega) ?_; intro v3 w3 ho3 hg3 hr3; have H3 := Lib.hid (And.intro ho3 (And.intro hg3 hr3)); clear ho3 hg3 hr3)
              go_roundw
              case rel =>
                refine ⟨k + 1, hlt, by go_num, by rw [HB.out.2.2.1], ?_, step_b HB.out.2.1 HB.out.2.2.2.1 HB.out.1.1 H3.out.2.1⟩
                rw [HB.out.2.2.1, ← HB.out.2.2.2.2]
                exact Rows2.out ((HB.out.1.alloc _).alloc _) H3.out.1 H3.out.2.1 (by rcases H3.out.2.2 with h | h; exact .inl h; exact .inr ⟨_, h, by simp⟩)
              case measure => simp [intOf]; omega
        · have hst : tRun cond trig (L.take (k + 1)) = ⟨true, ys ++ wsb, []⟩ := by rw [htk, hwsb]; simp [TS.op, TS.flush]
          have HB := Lib.hid (And.intro hrows (And.intro hbel (And.intro hst hbel.size)))
          clear hrows hbel hst htk hs hwsb hx hx2 hxo hxc
          go_wp2_with (at_builtin; refine app_row _ _ rfl rfl rfl (HB.out.1.alloc _).1 rfl (HB.out.1.alloc _).2.1 (strV_one _) (by omega) (by have := HB.out.2.2.2; simp; omega) ?_; intro v2 w2 ho2 hg2 hr2; have H2 := Lib.hid (And.intro (Rows2.flush ho2) hg2); clear ho2 hg2 hr2)
          go_roundw
          case rel =>
            refine ⟨k + 1, hlt, by go_num, by rw [HB.out.2.2.1], ?_, step_f HB.out.2.1 HB.out.2.2.2 HB.out.1.1 H2.out.2⟩
            rw [HB.out.2.2.1]
            exact H2.out.1
          case measure => simp [intOf]; omega
      · have ht : t = false := by
          rcases hxo.1 with h | h
          · exact h
          · cases h
        subst ht
        have hst : tRun cond trig (L.take (k + 1)) = ⟨op, ys, ws⟩ := by rw [htk]; simp [TS.op]
        have hst2 := tRun_last (hxc rfl) hst
        have HB := Lib.hid (And.intro hrows (And.intro hbel (And.intro hst2 hbel.size)))
        clear hrows hbel hst hst2 htk hs hwsb hx hx2 hxo hxc
        go_wp2
        go_ret
        exact trigRet_of (HB.out.1.alloc _) HB.out.2.2.1 rfl (HB.out.2.1.alloc HB.out.2.2.2 _)
    · obtain rfl : k = L.length := by omega
      rw [List.take_length] at hrows
      have HB := Lib.hid (And.intro hrows hbel)
      clear hrows hbel
      go_wp2
      go_ret
      exact trigRet_of HB.out.1 rfl rfl HB.out.2
end Go.Proofs.YtdbnconphcaclaaDoor
