/-
  zerolog's multiLevelWriter over filtered writers of impl's lines. Conditions: as each theorem says.
-/
import Derived.Test.YtdbnconphcaclaaDoorWriter
namespace Go.Proofs.YtdbnconphcaclaaDoor
open Go.RowKit
set_option linter.unusedVariables false

def adv (b : Nat) : Value := .iface 86 (.agg #[.iface 79 (.pointer (some ⟨b, 0, none⟩))])
def lwv (x : Nat × Nat × Int) : Value := .iface 82 (.pointer (some ⟨x.2.1, 0, none⟩))
/-- Each writer: its lines' block, its own, its level. -/
def Wired (w : World) (WS : List (Nat × Nat × Int)) : Prop := ∀ x ∈ WS, Blk w x.2.1 92 #[adv x.1, .int .i8 x.2.2]
def Sinks (w : World) (B : Nat) (WS : List (Nat × Nat × Int)) (vs : Nat → Value) (T : Nat → List ByteArray) : Prop :=
  ∀ j x, WS[j]? = some x → Sink w B x.1 (vs j) (T j) ∧ ∀ i y, WS[i]? = some y → i ≠ j → y.1 ≠ x.1 ∧ ((vs i).ownBlock = none ∨ (vs i).ownBlock ≠ (vs j).ownBlock)
theorem own_keptT {w w' : World} {B : Nat} {e : TypeId} {n : Nat} {v : Value} {xs : List Value} (h : w.ownsRow B e 1 v n xs) (k : KeptT w w') (h1 : e ≠ 81) (h2 : e ≠ 9) : w'.ownsRow B e 1 v n xs := by
  obtain ⟨hl, h | ⟨g, cap, cur, rfl, hb, hh, hr⟩⟩ := h
  · exact ⟨hl, .inl h⟩
  · exact ⟨hl, .inr ⟨g, cap, cur, rfl, hb, k g e cur _ hh h1 h2, hr⟩⟩
theorem Kept.below {w w' : World} {B b : Nat} {v : Value} {xs : List ByteArray} (hs : Sink w B b v xs) (hk : Kept w w' b v) (hB : B ≤ w.heap.size) : Below B w w' := by
  obtain ⟨h1, h2, h3, h4, h5⟩ := hk
  refine ⟨h1, h2, h3, h4, fun i hi => h5 i (by omega) (by have := hs.2.2; omega) (fun e => ?_)⟩
  have := (hs.2.1.lt i e.symm).1
  omega
theorem sink_other {w w' : World} {B b b' : Nat} {v v' : Value} {xs ys : List ByteArray} (hs : Sink w B b v xs) (hk : Kept w w' b v) (h : Sink w B b' v' ys) (hb : b' ≠ b) (hv : v'.ownBlock = none ∨ v'.ownBlock ≠ v.ownBlock) : Sink w' B b' v' ys := by
  obtain ⟨h1, h2, h3⟩ := h
  have k := hk.2.2.2.2
  refine ⟨(k b' h1.lt hb (fun e => own_blk_ne hs.2.1 h1 (by decide) e.symm)).trans h1, ?_, h3⟩
  obtain ⟨hl, h | ⟨g, cap, cur, rfl, hbg, hh, hr⟩⟩ := h2
  · exact ⟨hl, .inl h⟩
  · refine ⟨hl, .inr ⟨g, cap, cur, rfl, hbg, ?_, hr⟩⟩
    have hg : g < w.heap.size := Blk.lt (t := 9) hh
    refine (k g hg ?_ ?_).trans hh
    · rintro rfl
      exact Blk.ne_ (t := 9) hh hs.1 (by decide) rfl
    · intro e
      rcases hv with hv | hv
      · simp [Value.ownBlock] at hv
      · exact hv (by simpa [Value.ownBlock] using e)
def upd {α : Type} (f : Nat → α) (j : Nat) (a : α) (i : Nat) : α := if i = j then a else f i
theorem sinks_write {w w' : World} {B : Nat} {WS : List (Nat × Nat × Int)} {vs : Nat → Value} {T : Nat → List ByteArray} (h : Sinks w B WS vs T) (j : Nat) (x : Nat × Nat × Int) (hx : WS[j]? = some x) {v' : Value} {ys : List ByteArray} (hs : Sink w' B x.1 v' ys) (hk : Kept w w' x.1 (vs j)) (ho : v'.ownBlock = (vs j).ownBlock ∨ ∃ g, v'.ownBlock = some g ∧ w.heap.size ≤ g) :
    Sinks w' B WS (upd vs j v') (upd T j ys) := by
  obtain ⟨hsj, hne⟩ := h j x hx
  have hold : ∀ i y, WS[i]? = some y → i ≠ j → ((vs i).ownBlock = none ∨ (vs i).ownBlock ≠ v'.ownBlock) := by
    intro i y hy hij
    rcases ho with ho | ⟨g, ho, hg⟩
    · rw [ho]
      exact (hne i y hy hij).2
    · cases hv : (vs i).ownBlock with
      | none => exact .inl rfl
      | some q =>
        right
        rw [ho]
        intro e
        injection e with e
        have := ((h i y hy).1.2.1.lt q hv).2
        omega
  intro i y hy
  by_cases hij : i = j
  · subst hij
    rw [hx] at hy
    injection hy with hy
    subst hy
    refine ⟨by simpa [upd] using hs, fun i2 y2 hy2 hne2 => ⟨(hne i2 y2 hy2 hne2).1, ?_⟩⟩
    simp only [upd, if_neg hne2, if_true]
    exact hold i2 y2 hy2 hne2
  · refine ⟨by simpa [upd, hij] using sink_other hsj hk (h i y hy).1 (hne i y hy hij).1 (hne i y hy hij).2, fun i2 y2 hy2 hne2 => ⟨((h i y hy).2 i2 y2 hy2 hne2).1, ?_⟩⟩
    by_cases h2j : i2 = j
    · subst h2j
      simp only [upd, if_true, if_neg hij]
      rcases ho with ho | ⟨g, ho, hg⟩
      · rw [ho]
        exact ((h i y hy).2 i2 y2 hy2 hne2).2
      · right
        rw [ho]
        intro e
        have := ((h i y hy).1.2.1.lt g e.symm).2
        omega
    · simp only [upd, if_neg h2j, if_neg hij]
      exact ((h i y hy).2 i2 y2 hy2 hne2).2
theorem Sinks.alloc {w : World} {B : Nat} {WS : List (Nat × Nat × Int)} {vs : Nat → Value} {T : Nat → List ByteArray} (h : Sinks w B WS vs T) (o : Obj) : Sinks (w.alloc o) B WS vs T := fun j x hx => ⟨(h j x hx).1.alloc o, (h j x hx).2⟩
theorem Sinks.congr {w : World} {B : Nat} {WS : List (Nat × Nat × Int)} {vs : Nat → Value} {T T' : Nat → List ByteArray} (h : Sinks w B WS vs T) (e : ∀ j, j < WS.length → T j = T' j) : Sinks w B WS vs T' := fun j x hx => by
  have hj := (List.getElem?_eq_some_iff.1 hx).1
  rw [← e j hj]
  exact h j x hx
theorem Wired.kept {w w' : World} {WS : List (Nat × Nat × Int)} (h : Wired w WS) (k : KeptT w w') : Wired w' WS := fun x hx => k _ _ _ _ (h x hx) (by decide) (by decide)
/-- What writer j has behind a line of level l. -/
def more (WS : List (Nat × Nat × Int)) (T : Nat → List ByteArray) (l : Int) (s : ByteArray) (j : Nat) : List ByteArray := T j ++ (if (WS.getD j (0, 0, 0)).2.2 ≤ l then [s] else [])

set_option maxRecDepth 100000 in
set_option maxHeartbeats 1000000 in
theorem multi_any (B : Nat) (WS : List (Nat × Nat × Int)) (vs : Nat → Value) (T : Nat → List ByteArray) (vw : Value) (l : Int) (s : ByteArray) (P : Option Addr) (n c : Nat) (w : World) (hw : Wired w WS) (hs : Sinks w B WS vs T) (hrow : w.ownsRow B 90 1 vw WS.length (WS.map lwv)) (hx : ∀ j, (T j).length ≤ 900) (hB : B ≤ w.heap.size) (hp : PB w P n s) (hn : n ≤ 1000) (h6 : WS.length ≤ 6) :
    Calls Tryd.prog 172 #[.agg #[vw], .int .i8 l, .slice P n c] w fun e w' => (∃ x y, e = .returned (.tuple #[x, y])) ∧ ∃ vs', Sinks w' B WS vs' (more WS T l s) ∧ KeptT w w' ∧ Below B w w' := by
  have H := Lib.hid (And.intro hw (And.intro hs (And.intro hrow (And.intro hx hp))))
  obtain ⟨A, cp, rfl⟩ := own_slice hrow
  clear hw hs hrow hx hp
  go_enter Tryd.func172, Tryd.ntmps172
  go_wp2
  go_loopw [6, 7, 15] (fun nn er i wr => ∃ (k q : Nat) (vs' : Nat → Value), k ≤ WS.length ∧ i = .int .i64 k ∧ nn = .int .i64 q ∧ er = .nilIface ∧ Sinks wr B WS vs' (fun j => if j < k then more WS T l s j else T j) ∧ KeptT w wr ∧ Below B w wr) (fun _ _ i _ => WS.length - (intOf i).toNat)
  case atStart => exact ⟨0, 0, vs, by omega, rfl, rfl, rfl, by simpa using H.out.2.1.alloc _, KeptT.alloc w _, (Below.refl B w).alloc hB _⟩
  case round =>
    obtain ⟨k, q, vs2, hkl, rfl, rfl, rfl, hsk, hkt, hbel⟩ := hrel
    have hB2 : B ≤ wr.heap.size := Nat.le_trans hB hbel.size
    by_cases hlt : k < WS.length
    · obtain ⟨x, hx⟩ : ∃ x, x = WS[k] := ⟨_, rfl⟩
      have hx2 : WS[k]? = some x := by rw [hx]; exact List.getElem?_eq_getElem hlt
      obtain ⟨hw, hs, hrow, hlen, hp⟩ := H.out
      obtain ⟨ad, u, hA, -, hu, hc⟩ := (Reads.of_own (own_keptT hrow hkt (by decide) (by decide))).at_ hlt
      have hu2 : u = lwv x := by rw [List.getElem?_map, hx2] at hu; exact (Option.some.inj hu).symm
      subst hA hu2
      unfold lwv at hc
      have hm := method_filter ⟨x.2.1, 0, none⟩
      have hwx := (hw.kept hkt) x (List.mem_of_getElem? hx2)
      have hsx : Sink wr B x.1 (vs2 k) (T k) := by simpa using (hsk k x hx2).1
      have HS := Lib.hid (And.intro hsk (And.intro hkt (And.intro hbel (And.intro hx2 (And.intro hwx (And.intro hsx (And.intro (hp.kept hkt) (hlen k))))))))
      clear hsk hkt hbel hx2 hwx hsx hw hs hrow hlen hp hu hx
      go_wp2_with (go_at_call 166; refine (filter_any B x.1 x.2.1 x.2.2 (vs2 k) (T k) s P n c l _ HS.out.2.2.2.2.1 HS.out.2.2.2.2.2.1 (by have := HS.out.2.2.2.2.2.2.2; omega) hB2 HS.out.2.2.2.2.2.2.1 hn).mono ?_; rintro e w1 ⟨rfl, v2, h1, h2, h3⟩; have H1 := Lib.hid (And.intro h1 (And.intro h2 h3)); clear h1 h2 h3 hc hm)
      obtain ⟨hsk, hkt, hbel, hx2, hwx, hsx, hp, hlen⟩ := HS.out
      go_roundw
      case rel =>
        refine ⟨k + 1, n, upd vs2 k v2, hlt, by go_num, rfl, rfl, ?_, hkt.trans (KeptT.of hsx H1.out.2.1), hbel.trans (Kept.below hsx H1.out.2.1 hB2)⟩
        refine (sinks_write hsk k x hx2 H1.out.1 H1.out.2.1 H1.out.2.2).congr fun j hj => ?_
        by_cases hjk : j = k
        · subst hjk
          simp only [upd, if_true, if_pos (Nat.lt_succ_self j)]
          unfold more
          rw [List.getD_eq_getElem?_getD, hx2]
          rfl
        · simp only [upd, if_neg hjk]
          by_cases h4 : j < k
          · rw [if_pos h4, if_pos (by omega)]
          · rw [if_neg h4, if_neg (by omega)]
      case measure => simp [intOf]; omega
    · have hk2 : k = WS.length := by omega
      have HS := Lib.hid (And.intro hsk (And.intro hkt hbel))
      clear hsk hkt hbel
      go_wp2
      go_ret2
      refine ⟨⟨_, _, rfl⟩, vs2, HS.out.1.congr fun j hj => ?_, HS.out.2.1, HS.out.2.2⟩
      rw [if_pos (by omega)]
end Go.Proofs.YtdbnconphcaclaaDoor
