/-
  impl.LMulti: each writer gets the lines of its level and above. Conditions: as each theorem says.
-/
import Derived.Test.YtdbnconphcaclaaDoorMLW
import Derived.Lib.ConvBytes
namespace Go.Proofs.YtdbnconphcaclaaDoor
open Go.RowKit
set_option linter.unusedVariables false

/-- Blocks of any type but one stay. -/
def KeptE (e : TypeId) (w w' : World) : Prop := ∀ g T cs, Blk w g T cs → T ≠ e → Blk w' g T cs
theorem KeptE.of {w w' : World} {B n : Nat} {e : TypeId} {v : Value} {xs : List Value} {o : Obj} (h : w.ownsRow B e 1 v n xs) (hg : (w.alloc o).grownBy w' v.ownBlock) : KeptE e w w' := by
  intro g T cs hb hT
  refine (hg.block g (by have := hb.lt; simp; omega) (fun e2 => own_blk_ne h hb (fun e3 => hT e3.symm) e2.symm)).trans (hb.alloc o)
theorem KeptE.alloc (e : TypeId) (w : World) (o : Obj) : KeptE e w (w.alloc o) := fun g T cs hb _ => hb.alloc o
theorem KeptE.own {w w' : World} {B n : Nat} {e e' : TypeId} {v : Value} {xs : List Value} (k : KeptE e w w') (h : w.ownsRow B e' 1 v n xs) (hne : e' ≠ e) : w'.ownsRow B e' 1 v n xs := by
  obtain ⟨hl, h | ⟨g, cap, cur, rfl, hb, hh, hr⟩⟩ := h
  · exact ⟨hl, .inl h⟩
  · exact ⟨hl, .inr ⟨g, cap, cur, rfl, hb, k g e' cur hh hne, hr⟩⟩
/-- New lines, nothing written yet. -/
def Fresh (w : World) (B : Nat) (WS : List (Nat × Nat × Int)) : Prop := (∀ x ∈ WS, Blk w x.1 81 #[.slice none 0 0] ∧ B ≤ x.1) ∧ WS.Pairwise (fun x y => x.1 ≠ y.1)
theorem Fresh.kept {w w' : World} {B : Nat} {WS : List (Nat × Nat × Int)} {e : TypeId} (h : Fresh w B WS) (k : KeptE e w w') (hne : 81 ≠ e) : Fresh w' B WS := ⟨fun x hx => ⟨k _ _ _ (h.1 x hx).1 hne, (h.1 x hx).2⟩, h.2⟩
theorem Wired.keptE {w w' : World} {WS : List (Nat × Nat × Int)} {e : TypeId} (h : Wired w WS) (k : KeptE e w w') (hne : 92 ≠ e) : Wired w' WS := fun x hx => k _ _ _ (h x hx) hne
theorem Fresh.sinks {w : World} {B : Nat} {WS : List (Nat × Nat × Int)} (h : Fresh w B WS) : Sinks w B WS (fun _ => .slice none 0 0) (fun _ => []) := by
  intro j x hx
  refine ⟨⟨(h.1 x (List.mem_of_getElem? hx)).1, World.ownsRow_nil _ _ _ _, (h.1 x (List.mem_of_getElem? hx)).2⟩, fun i y hy hij => ⟨?_, .inl rfl⟩⟩
  have hj := (List.getElem?_eq_some_iff.1 hx)
  have hi := (List.getElem?_eq_some_iff.1 hy)
  obtain ⟨hj1, hj2⟩ := hj
  obtain ⟨hi1, hi2⟩ := hi
  rcases Nat.lt_or_gt_of_ne hij with h1 | h1
  · have := List.pairwise_iff_getElem.1 h.2 i j hi1 hj1 h1
    rwa [hi2, hj2] at this
  · have := List.pairwise_iff_getElem.1 h.2 j i hj1 hi1 h1
    rw [hi2, hj2] at this
    exact fun e => this e.symm
theorem ptr_info : (Tryd.prog.info? 79).map (fun i => (i.zero, i.size, i.bytes)) = some (some (.pointer none), 1, 8) := by kernel_rfl
theorem iow_info : (Tryd.prog.info? 84).map (fun i => (i.zero, i.size, i.bytes)) = some (some .nilIface, 1, 16) := by kernel_rfl
theorem strs_info : (Tryd.prog.info? 30).map (fun i => (i.zero, i.size, i.bytes)) = some (some (.slice none 0 0), 1, 24) := by kernel_rfl
def outV (x : Nat × Nat × Int) : Value := .pointer (some ⟨x.1, 0, none⟩)
/-- The first k writers are made. -/
def Made (w : World) (B : Nat) (zs : List Int) (k : Nat) (o s : Value) (wr : World) : Prop := ∃ WS : List (Nat × Nat × Int), WS.length = k ∧ wr.ownsRow B 79 1 o k (WS.map outV) ∧ wr.ownsRow B 84 1 s k (WS.map lwv) ∧ Wired wr WS ∧ Fresh wr B WS ∧ (∀ x ∈ WS, x.1 < wr.heap.size) ∧ (∀ (j : Nat) (x : Nat × Nat × Int) (z : Int), WS[j]? = some x → zs[j]? = some z → -1 ≤ z → z ≤ 7 → x.2.2 = z) ∧ Below B w wr

theorem conv_below (W : World) (s : ByteArray) : Below W.heap.size W (Lib.bytesWorld W 5 s) := ⟨rfl, rfl, rfl, by rw [Lib.bytesWorld_size]; omega, fun k hk => Lib.bytesWorld_at_old W _ s k hk⟩
theorem conv_pb (W : World) (s : ByteArray) : PB (Lib.bytesWorld W 5 s) (some ⟨W.heap.size, 0, none⟩) s.size s := by
  refine ⟨_, _, _, rfl, rfl, Lib.bytesWorld_at_new W _ s, fun i hi => ?_⟩
  have h := Lib.bytesWorld_cell W 5 s i hi
  rw [cell_of_row _ _ i _ _ _ (Lib.bytesWorld_at_new W 5 s)] at h
  rw [h, List.getD_eq_getElem?_getD, List.getElem?_eq_getElem (by simpa using hi)]
  rfl
theorem Sink.below {w w' : World} {B b : Nat} {v : Value} {xs : List ByteArray} (h : Sink w B b v xs) (hb : Below w.heap.size w w') : Sink w' B b v xs := by
  refine ⟨h.1.below hb h.1.lt, ?_, h.2.2⟩
  refine World.ownsRow.kept h.2.1 (only_of_below hb none) ?_
  cases v.ownBlock with
  | none => exact .inl rfl
  | some g => exact .inr (by simp)
theorem Sinks.below {w w' : World} {B : Nat} {WS : List (Nat × Nat × Int)} {vs : Nat → Value} {T : Nat → List ByteArray} (h : Sinks w B WS vs T) (hb : Below w.heap.size w w') : Sinks w' B WS vs T := fun j x hx => ⟨(h j x hx).1.below hb, (h j x hx).2⟩
theorem own_weaken {w : World} {B B' n : Nat} {e : TypeId} {v : Value} {xs : List Value} (h : w.ownsRow B' e 1 v n xs) (hB : B ≤ B') : w.ownsRow B e 1 v n xs := by
  obtain ⟨hl, h | ⟨g, cap, cur, rfl, hb, hr⟩⟩ := h
  · exact ⟨hl, .inl h⟩
  · exact ⟨hl, .inr ⟨g, cap, cur, rfl, by omega, hr⟩⟩
theorem own_below' {w w' : World} {B n : Nat} {e : TypeId} {v : Value} {xs : List Value} (h : w.ownsRow B e 1 v n xs) (hb : Below w.heap.size w w') : w'.ownsRow B e 1 v n xs := by
  refine World.ownsRow.kept h (only_of_below hb none) ?_
  cases v.ownBlock with
  | none => exact .inl rfl
  | some g => exact .inr (by simp)
theorem method_multi (v : Value) (w : World) : (method 332 121 (.agg #[v]) "WriteLevel").run Tryd.prog w = .ok (172, .agg #[v]) w := by kernel_rfl
def lev (WS : List (Nat × Nat × Int)) (j : Nat) : Int := (WS.getD j (0, 0, 0)).2.2
def OpsIn (L : List OpR) : Prop := ∀ x ∈ L, -1 ≤ x.lv ∧ x.lv ≤ 7 ∧ x.tx.size ≤ 100
theorem filt_len (lv : Int) (L : List OpR) (k : Nat) (h : L.length ≤ 40) : (lFilt lv (L.take k)).length ≤ 900 := by
  unfold lFilt
  rw [List.length_map]
  exact Nat.le_trans (List.length_filter_le _ _) (by simp; omega)
theorem after_mlw {w wr w4 : World} {k : Nat} {zs : List Int} {u5 u6 vw : Value} {WS : List (Nat × Nat × Int)} (h : WS.length = k ∧ wr.ownsRow w.heap.size 79 1 u5 k (WS.map outV) ∧ wr.ownsRow w.heap.size 84 1 u6 k (WS.map lwv) ∧ Wired wr WS ∧ Fresh wr w.heap.size WS ∧ (∀ x ∈ WS, x.1 < wr.heap.size) ∧ (∀ (j : Nat) (x : Nat × Nat × Int) (z : Int), WS[j]? = some x → zs[j]? = some z → -1 ≤ z → z ≤ 7 → x.2.2 = z) ∧ Below w.heap.size w wr)
    (hv : w4.ownsRow wr.heap.size 90 1 vw WS.length (WS.map lwv)) (hb : Below wr.heap.size wr w4) :
    WS.length = k ∧ Wired w4 WS ∧ w4.ownsRow w.heap.size 90 1 vw WS.length (WS.map lwv) ∧ w4.ownsRow w.heap.size 79 1 u5 k (WS.map outV) ∧ Sinks w4 w.heap.size WS (fun _ => .slice none 0 0) (fun _ => []) ∧ (∀ (j : Nat) (x : Nat × Nat × Int) (z : Int), WS[j]? = some x → zs[j]? = some z → -1 ≤ z → z ≤ 7 → x.2.2 = z) ∧ Below w.heap.size w w4 := by
  obtain ⟨h1, h2, h3, h4, h5, h6, h7, h8⟩ := h
  exact ⟨h1, fun x hx => (h4 x hx).below hb (h4 x hx).lt, own_weaken hv h8.size, own_below' h2 hb, h5.sinks.below hb, h7, h8.trans (hb.mono h8.size)⟩
theorem mlw_at (WS : List (Nat × Nat × Int)) (A : Option Addr) (c n : Nat) (w : World) (B : Nat) (hn : WS.length = n) (ho : w.ownsRow B 84 1 (.slice A n c) n (WS.map lwv)) (h6 : n ≤ 6) :
    Calls Tryd.prog 42 #[.slice A n c] w fun e w' => ∃ vw, e = .returned (.iface 121 (.agg #[vw])) ∧ w'.ownsRow w.heap.size 90 1 vw WS.length (WS.map lwv) ∧ Below w.heap.size w w' := by
  subst hn
  exact mlw_any WS A c _ w (Reads.of_own ho) (Nat.le_refl _) h6
theorem made_next {w wr w2 w3 : World} {B k : Nat} {zs : List Int} {u5 u6 v2 v3 : Value} {z : Int} {WS : List (Nat × Nat × Int)} {Y G : Obj} (hWS : WS.length = k) (ho : wr.ownsRow B 79 1 u5 k (WS.map outV)) (hwired : Wired wr WS) (hfresh : Fresh wr B WS) (hlt : ∀ x ∈ WS, x.1 < wr.heap.size) (hlev : ∀ (j : Nat) (x : Nat × Nat × Int) (z : Int), WS[j]? = some x → zs[j]? = some z → -1 ≤ z → z ≤ 7 → x.2.2 = z) (hbel : Below B w wr) (hB : B ≤ wr.heap.size) (hz2 : zs[k]? = some z)
    (ho2 : w2.ownsRow B 79 1 v2 (k + 1) (WS.map outV ++ [.pointer (some ⟨wr.heap.size, 0, none⟩)])) (hk2 : KeptE 79 (wr.alloc (.cells #[.slice none 0 0] 81)) w2) (hs2 : w2.ownsRow B 84 1 u6 k (WS.map lwv)) (hg2 : ((wr.alloc (.cells #[.slice none 0 0] 81)).alloc Y).grownBy w2 u5.ownBlock)
    (ho3 : w3.ownsRow B 84 1 v3 (k + 1) (WS.map lwv ++ [.iface 82 (.pointer (some ⟨w2.heap.size, 0, none⟩))])) (hg3 : ((w2.alloc (.cells #[adv wr.heap.size, .int .i8 (IntKind.i8.wrap z)] 92)).alloc G).grownBy w3 u6.ownBlock) : Made w B zs (k + 1) v2 v3 w3 := by
  have hk3 : KeptE 84 (w2.alloc (.cells #[adv wr.heap.size, .int .i8 (IntKind.i8.wrap z)] 92)) w3 := KeptE.of (World.ownsRow.alloc hs2 _) hg3
  have sz2 := hg2.size
  have sz3 := hg3.size
  simp at sz2 sz3
  refine ⟨WS ++ [(wr.heap.size, w2.heap.size, IntKind.i8.wrap z)], by simp [hWS], ?_, ?_, ?_, ⟨?_, ?_⟩, ?_, ?_, ?_⟩
  · rw [List.map_append]
    exact KeptE.own hk3 (World.ownsRow.alloc ho2 _) (by decide)
  · rw [List.map_append]
    exact ho3
  · intro x hx
    rcases List.mem_append.1 hx with h | h
    · exact hk3 _ _ _ ((hk2 _ _ _ ((hwired x h).alloc _) (by decide)).alloc _) (by decide)
    · obtain rfl := List.mem_singleton.1 h
      exact hk3 _ _ _ (Blk.new w2 _ _) (by decide)
  · intro x hx
    rcases List.mem_append.1 hx with h | h
    · exact ⟨hk3 _ _ _ ((hk2 _ _ _ ((hfresh.1 x h).1.alloc _) (by decide)).alloc _) (by decide), (hfresh.1 x h).2⟩
    · obtain rfl := List.mem_singleton.1 h
      exact ⟨hk3 _ _ _ ((hk2 _ _ _ (Blk.new wr _ _) (by decide)).alloc _) (by decide), hB⟩
  · refine List.pairwise_append.2 ⟨hfresh.2, List.pairwise_singleton _ _, fun a ha b hb => ?_⟩
    obtain rfl := List.mem_singleton.1 hb
    exact Nat.ne_of_lt (hlt a ha)
  · intro x hx
    rcases List.mem_append.1 hx with h | h
    · have := hlt x h
      omega
    · obtain rfl := List.mem_singleton.1 h
      show wr.heap.size < _
      omega
  · intro j x z' hx hz' h0 h1
    rcases Nat.lt_or_ge j k with h | h
    · rw [List.getElem?_append_left (by omega)] at hx
      exact hlev j x z' hx hz' h0 h1
    · have hj : j = k := by
        have := (List.getElem?_eq_some_iff.1 hx).1
        simp [hWS] at this
        omega
      subst hj
      rw [List.getElem?_append_right (by omega), hWS, Nat.sub_self] at hx
      simp at hx
      subst hx
      rw [hz2] at hz'
      injection hz' with hz'
      subst hz'
      show IntKind.i8.wrap z = z
      have hz9 : z = -1 ∨ z = 0 ∨ z = 1 ∨ z = 2 ∨ z = 3 ∨ z = 4 ∨ z = 5 ∨ z = 6 ∨ z = 7 := by omega
      rcases hz9 with rfl | rfl | rfl | rfl | rfl | rfl | rfl | rfl | rfl <;> decide
  · have h2 := ((hbel.alloc hB (.cells #[.slice none 0 0] 81)).alloc (by simp; omega) Y).grown hg2 (by simp; omega) (fun g e => (ho.lt g e).1)
    exact ((h2.alloc (by omega) _).alloc (by simp; omega) G).grown hg3 (by simp; omega) (fun g e => (hs2.lt g e).1)

theorem multi_step {w4 wr : World} (B : Nat) (WS : List (Nat × Nat × Int)) (vs : Nat → Value) (T : Nat → List ByteArray) (vw : Value) (l : Int) (s : ByteArray) (c : Nat) (o : Obj) (hw : Wired w4 WS) (hs : Sinks wr B WS vs T) (hrow : w4.ownsRow B 90 1 vw WS.length (WS.map lwv)) (hk : KeptT w4 wr) (hx : ∀ j, (T j).length ≤ 900) (hB : B ≤ wr.heap.size) (hn : s.size ≤ 1000) (h6 : WS.length ≤ 6) :
    Calls Tryd.prog 172 #[.agg #[vw], .int .i8 l, .slice (some ⟨wr.heap.size + 1, 0, none⟩) s.size c] (Lib.bytesWorld (wr.alloc o) 5 s) fun e w' => (∃ x y, e = .returned (.tuple #[x, y])) ∧ ∃ vs', Sinks w' B WS vs' (more WS T l s) ∧ KeptT w4 w' ∧ Below B wr w' := by
  have h1 : Below wr.heap.size wr (Lib.bytesWorld (wr.alloc o) 5 s) := ((Below.refl wr.heap.size wr).alloc (Nat.le_refl _) o).trans ((conv_below (wr.alloc o) s).mono (by simp))
  have hk1 := hk.trans (KeptT.below h1)
  have hpb := conv_pb (wr.alloc o) s
  rw [show (wr.alloc o).heap.size = wr.heap.size + 1 by simp] at hpb
  refine (multi_any B WS vs T vw l s _ _ c _ (hw.kept hk1) (hs.below h1) (own_keptT hrow hk1 (by decide) (by decide)) hx (Nat.le_trans hB h1.size) hpb hn h6).mono ?_
  rintro e w' ⟨h2, vs', h3, h4, h5⟩
  exact ⟨h2, vs', h3, hk1.trans h4, (h1.mono hB).trans h5⟩
theorem Sinks.keptE {w w' : World} {B : Nat} {WS : List (Nat × Nat × Int)} {vs : Nat → Value} {T : Nat → List ByteArray} {e : TypeId} (h : Sinks w B WS vs T) (k : KeptE e w w') (h1 : 81 ≠ e) (h2 : 9 ≠ e) : Sinks w' B WS vs T := fun j x hx => by
  obtain ⟨⟨a, b, c⟩, d⟩ := h j x hx
  exact ⟨⟨k _ _ _ a h1, KeptE.own k b h2, c⟩, d⟩
/-- What LMulti gives: the rows of the lines. -/
def MultiRet (w : World) (n : Nat) (zs : List Int) (L : List OpR) (e : Ending) (w' : World) : Prop := ∃ (v : Value) (WS : List (Nat × Nat × Int)) (vs : Nat → Value), e = .returned v ∧ WS.length = n ∧ w'.ownsRow w.heap.size 30 1 v n ((List.range n).map vs) ∧ Sinks w' w.heap.size WS vs (fun j => lFilt (lev WS j) L) ∧ (∀ (j : Nat) (x : Nat × Nat × Int) (z : Int), WS[j]? = some x → zs[j]? = some z → -1 ≤ z → z ≤ 7 → x.2.2 = z) ∧ Below w.heap.size w w'
set_option maxRecDepth 100000 in
set_option maxHeartbeats 1000000 in
theorem lmulti (A A2 : Option Addr) (c c2 n : Nat) (zs : List Int) (L : List OpR) (w : World) (hz : zs.length = n) (hzb : ∀ z ∈ zs, -9223372036854775808 ≤ z ∧ z ≤ 9223372036854775807) (hr : Reads w w.heap.size 1 A n (zs.map (.int .i64))) (h6 : n ≤ 6) (ho : OpsAt w w.heap.size A2 L) (hL : L.length ≤ 40) (hin : OpsIn L) :
    Calls Tryd.prog 22 #[.slice A n c, .slice A2 L.length c2] w (MultiRet w n zs L) := by
  have HO := Lib.hid (And.intro ho hin)
  clear ho hin
  go_enter Tryd.func22, Tryd.ntmps22
  go_wp2
  go_loopw [5, 6, 18] (fun o s i wr => ∃ k : Nat, k ≤ n ∧ i = .int .i64 k ∧ Made w w.heap.size zs k o s wr) (fun _ _ i _ => n - (intOf i).toNat)
  case atStart => exact ⟨0, by omega, rfl, [], rfl, World.ownsRow_nil _ _ _ _, World.ownsRow_nil _ _ _ _, fun x hx => by simp at hx, ⟨fun x hx => by simp at hx, .nil⟩, fun x hx => by simp at hx, fun j x z hx => by simp at hx, Below.refl _ _⟩
  case round =>
    obtain ⟨k, hkl, rfl, WS, hWS, ho, hs, hwired, hfresh, hlt81, hlev, hbel⟩ := hrel
    by_cases hlt : k < n
    · obtain ⟨a1, u1, hA, -, hu1, hc1⟩ := (hr.below hbel).at_ hlt
      obtain ⟨z, hzz⟩ : ∃ z, z = zs[k]'(by omega) := ⟨_, rfl⟩
      have hz2 : zs[k]? = some z := by rw [hzz]; exact List.getElem?_eq_getElem (by omega)
      have hu2 : u1 = .int .i64 z := by rw [List.getElem?_map, hz2] at hu1; exact (Option.some.inj hu1).symm
      subst hA hu2
      have hzb2 := hzb z (List.mem_of_getElem? hz2)
      have HM := Lib.hid (And.intro hWS (And.intro ho (And.intro hs (And.intro hwired (And.intro hfresh (And.intro hlt81 (And.intro hlev (And.intro hbel hz2))))))))
      clear hWS ho hs hwired hfresh hlt81 hlev hbel hz2 hzz hu1
      go_wp2_with (first
        | (have _ := m1; at_builtin; refine app1 (B := w.heap.size) 78 84 16 (w2.heap.size + 1) Tryd.underlying78 iow_info rfl (by decide) _ _ rfl rfl rfl (World.ownsRow.alloc H2.out.2.2.2.1 _) (by simp) rfl rfl (by omega) (by have := H2.out.2.2.1; simp; omega) ?_; intro v3 w3 ho3 hg3 hr3; have H3 := Lib.hid (And.intro ho3 (And.intro hg3 hr3)); clear ho3 hg3 hr3)
        | (at_builtin; refine app1 (B := w.heap.size) 77 79 8 (wr.heap.size + 1) Tryd.underlying77 ptr_info rfl (by decide) _ _ rfl rfl rfl (World.ownsRow.alloc HM.out.2.1 _) (by simp) rfl rfl (by omega) (by have := HM.out.2.2.2.2.2.2.2.1.size; simp; omega) ?_; intro v2 w2 ho2 hg2 hr2; have hk2 : KeptE 79 (wr.alloc (.cells #[.slice none 0 0] 81)) w2 := KeptE.of (World.ownsRow.alloc HM.out.2.1 _) hg2; have H2 := Lib.hid (And.intro ho2 (And.intro hk2 (And.intro (Nat.le_trans HM.out.2.2.2.2.2.2.2.1.size (Nat.le_trans (by simp; omega) hg2.size)) (And.intro (KeptE.own hk2 (World.ownsRow.alloc HM.out.2.2.1 _) (by decide)) hg2)))); have m1 := True.intro; clear ho2 hg2 hr2 hk2))
      obtain ⟨hWS, ho, hs, hwired, hfresh, hlt81, hlev, hbel, hz2⟩ := HM.out
      exact ⟨⟨k + 1, hlt, by go_num, made_next hWS ho hwired hfresh hlt81 hlev hbel hbel.size hz2 H2.out.1 H2.out.2.1 H2.out.2.2.2.1 H2.out.2.2.2.2 H3.out.1 H3.out.2.1⟩, by simp [intOf]; omega⟩
    · obtain rfl : k = n := by omega
      have HM := Lib.hid (And.intro hWS (And.intro ho (And.intro hs (And.intro hwired (And.intro hfresh (And.intro hlt81 (And.intro hlev hbel)))))))
      obtain ⟨A3, c3, rfl⟩ := own_slice hs
      obtain ⟨A5, c5, rfl⟩ := own_slice ho
      clear hWS ho hs hwired hfresh hlt81 hlev hbel
      go_wp2_with (first
        | (go_at_call 42; refine (mlw_at WS A3 c3 k _ _ HM.out.1 HM.out.2.2.1 h6).mono ?_; rintro e w4 ⟨vw, rfl, hvw, hb4⟩; have H5 := Lib.hid (after_mlw HM.out hvw hb4); clear hvw hb4 HM))
      go_loopw [45] (fun i wr2 => ∃ (q : Nat) (vs' : Nat → Value), q ≤ L.length ∧ i = .int .i64 q ∧ Sinks wr2 w.heap.size WS vs' (fun j => lFilt (lev WS j) (L.take q)) ∧ KeptT w4 wr2 ∧ Below w.heap.size w4 wr2) (fun i _ => L.length - (intOf i).toNat)
      case atStart => exact ⟨0, _, by omega, rfl, by simpa [lFilt] using H5.out.2.2.2.2.1, KeptT.refl _, Below.refl _ _⟩
      case round =>
        obtain ⟨q, vs2, hql, rfl, hsk, hkt, hb2⟩ := hrel
        have hbw : Below w.heap.size w wr := H5.out.2.2.2.2.2.2.trans hb2
        by_cases hq : q < L.length
        · obtain ⟨b, o, x, hx, hx2, hA, hblk, c0, c1, c2', c3'⟩ := (HO.out.1.below hbw).at_ q hq
          subst hA
          have hxo := HO.out.2 x (List.mem_of_getElem? hx2)
          have htk := fun lv => lFilt_take lv L q x hx2
          obtain ⟨l, s, t, cc⟩ := x
          simp only at c0 c1 c2' c3' hxo htk
          have hm := method_multi vw
          have hcv : ∀ W : World, (convert 9 29 (.string s)).run Tryd.prog W = .ok (.slice (some ⟨W.heap.size, 0, none⟩) s.size (grownCap W s.size 0 5)) (Lib.bytesWorld W 5 s) := fun W => Lib.run_convert_string_bytes W 9 29 5 s Tryd.underlying9 Tryd.underlying29 Tryd.underlying5
          have HS := Lib.hid (And.intro hsk (And.intro hkt (And.intro hb2 (And.intro hbw htk))))
          clear hsk hkt hb2 hbw htk hx hx2
          go_wp2_with (go_at_call 172; refine (multi_step (w4 := w4) w.heap.size WS vs2 _ vw l s _ _ H5.out.2.1 HS.out.1 H5.out.2.2.1 HS.out.2.1 (fun j => filt_len _ _ _ hL) HS.out.2.2.2.1.size (by omega) (by have := H5.out.1; omega)).mono ?_; rintro e w6 ⟨⟨x1, x2, rfl⟩, vs3, h1, h2, h3⟩; have H6 := Lib.hid (And.intro h1 (And.intro h2 h3)); clear h1 h2 h3)
          refine ⟨⟨q + 1, vs3, hq, by go_num, ?_, H6.out.2.1, HS.out.2.2.1.trans H6.out.2.2⟩, by simp [intOf]; omega⟩
          exact H6.out.1.congr fun j hj => by rw [HS.out.2.2.2.2]; rfl
        · obtain rfl : q = L.length := by omega
          have HS := Lib.hid (And.intro hsk (And.intro hkt (And.intro hb2 hbw)))
          clear hsk hkt hb2 hbw
          go_wp2
          go_loopw [13, 60] (fun v i wr3 => ∃ q : Nat, q ≤ k ∧ i = .int .i64 q ∧ wr3.ownsRow w.heap.size 30 1 v q ((List.range q).map vs2) ∧ wr3.ownsRow w.heap.size 79 1 (.slice A5 k c5) k (WS.map outV) ∧ Sinks wr3 w.heap.size WS vs2 (fun j => lFilt (lev WS j) L) ∧ Below w.heap.size w wr3) (fun _ i _ => k - (intOf i).toNat)
          case atStart => exact ⟨0, by omega, rfl, World.ownsRow_nil _ _ _ _, own_keptT H5.out.2.2.2.1 HS.out.2.1 (by decide) (by decide), by have := HS.out.1; rwa [List.take_length] at this, HS.out.2.2.2⟩
          case round =>
            obtain ⟨q, hqk, rfl, hv, hro, hsk, hb3⟩ := hrel
            by_cases hq2 : q < k
            · obtain ⟨x, hx⟩ : ∃ x, x = WS[q]'(by have := H5.out.1; omega) := ⟨_, rfl⟩
              have hx2 : WS[q]? = some x := by rw [hx]; exact List.getElem?_eq_getElem _
              obtain ⟨ad, u, hA, -, hu, hc⟩ := (Reads.of_own hro).at_ hq2
              have hu2 : u = outV x := by rw [List.getElem?_map, hx2] at hu; exact (Option.some.inj hu).symm
              subst hA hu2
              unfold outV at hc
              obtain ⟨hskx, -⟩ := hsk q x hx2
              have hcx := hskx.1.cell 0
              simp at hcx
              obtain ⟨A7, c7, h7⟩ := own_slice hskx.2.1
              rw [h7] at hcx
              have HV := Lib.hid (And.intro hv (And.intro hro (And.intro hsk (And.intro hb3 h7))))
              clear hv hro hsk hb3 hskx h7 hx hx2 hu
              go_wp2_with (at_builtin; refine app1 (B := w.heap.size) 46 30 24 wr.heap.size Tryd.underlying46 strs_info rfl (by decide) _ _ rfl rfl rfl HV.out.1 rfl rfl rfl (by omega) HV.out.2.2.2.1.size ?_; intro v7 w7 ho7 hg7 hr7; have H7 := Lib.hid (And.intro ho7 hg7); clear ho7 hg7 hr7)
              have hk7 : KeptE 30 wr w7 := KeptE.of HV.out.1 H7.out.2
              refine ⟨⟨q + 1, hq2, by go_num, ?_, KeptE.own hk7 HV.out.2.1 (by decide), HV.out.2.2.1.keptE hk7 (by decide) (by decide), (HV.out.2.2.2.1.alloc HV.out.2.2.2.1.size _).grown H7.out.2 (by have := HV.out.2.2.2.1.size; simp; omega) (fun g e => (HV.out.1.lt g e).1)⟩, by simp [intOf]; omega⟩
              rw [List.range_succ, List.map_append, List.map_singleton, HV.out.2.2.2.2]
              exact H7.out.1
            · obtain rfl : q = k := by omega
              have HV := Lib.hid (And.intro hv (And.intro hsk hb3))
              clear hv hro hsk hb3
              go_wp2
              go_ret
              exact ⟨_, WS, vs2, rfl, H5.out.1, HV.out.1, HV.out.2.1, H5.out.2.2.2.2.2.1, HV.out.2.2⟩
end Go.Proofs.YtdbnconphcaclaaDoor
