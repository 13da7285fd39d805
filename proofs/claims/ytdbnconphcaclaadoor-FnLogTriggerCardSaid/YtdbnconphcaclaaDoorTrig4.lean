/-
  zerolog's TriggerLevelWriter: WriteLevel in any state; what comes of a list of operations. Conditions: as each theorem says.
-/
import Derived.Test.YtdbnconphcaclaaDoorTrig3
import Derived.Lib.ConvBytes
namespace Go.Proofs.YtdbnconphcaclaaDoor
open Go.RowKit
set_option linter.unusedVariables false

/-- The state of the writer: open; what came out; what waits. -/
structure TS where
  o : Bool
  ys : List ByteArray
  ws : List (Int × ByteArray)
def TS.flush (s : TS) : TS := ⟨true, s.ys ++ s.ws.map (·.2), []⟩
def TS.line (cond trig : Int) (s : TS) (x : Int × ByteArray) : TS :=
  if s.o = true then ⟨true, s.ys ++ [x.2], s.ws⟩
  else if trig ≤ x.1 then ⟨true, s.ys ++ s.ws.map (·.2) ++ [x.2], []⟩
  else if cond < x.1 then ⟨false, s.ys ++ [x.2], s.ws⟩
  else ⟨false, s.ys, s.ws ++ [x]⟩
def TS.op (cond trig : Int) (s : TS) (x : OpR) : TS := if x.tg = true then s.flush else if x.cl = true then s else s.line cond trig (x.lv, x.tx)
def tRun (cond trig : Int) (L : List OpR) : TS := L.foldl (TS.op cond trig) ⟨false, [], []⟩
theorem tRun_take (cond trig : Int) (L : List OpR) (k : Nat) (x : OpR) (h : L[k]? = some x) : tRun cond trig (L.take (k + 1)) = (tRun cond trig (L.take k)).op cond trig x := by
  have hk := (List.getElem?_eq_some_iff.1 h).1
  have hx := (List.getElem?_eq_some_iff.1 h).2
  unfold tRun
  rw [List.take_succ_eq_append_getElem hk, List.foldl_append, hx]
  rfl
theorem op_len (cond trig : Int) (s : TS) (x : OpR) : (s.op cond trig x).ys.length + (s.op cond trig x).ws.length ≤ s.ys.length + s.ws.length + 1 := by
  unfold TS.op TS.line TS.flush
  split
  · simp <;> omega
  · split
    · omega
    · split
      · simp <;> omega
      · split
        · simp <;> omega
        · split <;> simp <;> omega
theorem tRun_len (cond trig : Int) (L : List OpR) : ∀ k, k ≤ L.length → (tRun cond trig (L.take k)).ys.length + (tRun cond trig (L.take k)).ws.length ≤ k := by
  intro k
  induction k with
  | zero => intro _; simp [tRun]
  | succ k ih =>
    intro hk
    rw [tRun_take cond trig L k L[k] (List.getElem?_eq_getElem (by omega))]
    have := ih (by omega)
    have := op_len cond trig (tRun cond trig (L.take k)) L[k]
    omega

theorem St.open_any {w : World} {B M M' t out : Nat} {cond trig : Int} {ys : List ByteArray} {ws : List (Int × ByteArray)} (h : St w B M t out cond trig true ys ws) : St w B M' t out cond trig true ys ws := by
  obtain ⟨v, buf, h1, h2, h3, h4, -, h6⟩ := h
  exact ⟨v, buf, h1, h2, h3, h4, (fun h => by cases h), h6⟩
theorem BufS.more {w : World} {B M M' : Nat} {buf : Value} {ws : List (Int × ByteArray)} (h : BufS w B M buf ws) (hM : M ≤ M') : BufS w B M' buf ws := by
  rcases h with h | ⟨bb, g, cap, h1, h2, h3, h4, h5⟩
  · exact .inl h
  · exact .inr ⟨bb, g, cap, h1, h2, h3, by omega, h5⟩
theorem St.below {w w' : World} {B M t out : Nat} {cond trig : Int} {o : Bool} {ys : List ByteArray} {ws : List (Int × ByteArray)} (h : St w B M t out cond trig o ys ws) (hb : Below w.heap.size w w') : St w' B M t out cond trig o ys ws := by
  obtain ⟨v, buf, h1, h2, h3, h4, h5, h6⟩ := h
  exact ⟨v, buf, h1.kept (KeptT.below hb), sink_below h2 hb, h3, h4, fun e => (h5 e).kept (KeptT.below hb), h6⟩
/-- What a write leaves. -/
def AnyPost (B t out : Nat) (cond trig : Int) (s : TS) (n : Nat) (w : World) (e : Ending) (w' : World) : Prop := e = .returned (.tuple #[.int .i64 n, .nilIface]) ∧ St w' B w'.heap.size t out cond trig s.o s.ys s.ws ∧ Below B w w'
theorem pass_any {w w' : World} {B M t out n : Nat} {cond trig : Int} {o : Bool} {buf : Value} {ys : List ByteArray} {ws : List (Int × ByteArray)} {s : ByteArray} {e : Ending} (hp : PassPost B t out cond trig buf o (ys ++ [s]) n w e w') (htb : B ≤ t) (hok : OkLines ws) (h5 : o = false → BufS w B M buf ws) (h6 : o = true → ws = [] ∧ (buf = .pointer none ∨ ∃ bb, buf = .pointer (some ⟨bb, 0, none⟩))) (hM : M ≤ w.heap.size) : AnyPost B t out cond trig ⟨o, ys ++ [s], ws⟩ n w e w' := by
  obtain ⟨h1, ⟨v', h2⟩, h3, h4, hb⟩ := hp
  exact ⟨h1, ⟨v', buf, h3, h2, htb, hok, fun e => ((h5 e).kept h4).more (Nat.le_trans hM hb.size), h6⟩, hb⟩
theorem wl_any (B M t out : Nat) (cond trig l : Int) (s : TS) (x : ByteArray) (P : Option Addr) (n c : Nat) (w : World) (h : St w B M t out cond trig s.o s.ys s.ws) (hlen : s.ys.length + s.ws.length ≤ 100) (hx : WOk (l, x)) (hB : B ≤ w.heap.size) (hM : M ≤ w.heap.size) (hp : PB w P n x) (hP : ∀ a, P = some a → M ≤ a.block) :
    Calls Tryd.prog 46 #[.pointer (some ⟨t, 0, none⟩), .int .i8 l, .slice P n c] w (AnyPost B t out cond trig (s.line cond trig (l, x)) n w) := by
  have hn : n ≤ 1000 := by
    obtain ⟨_, _, _, _, e, _⟩ := hp
    have := hx.2.2.2.1
    simp only at this
    omega
  obtain ⟨o, ys, ws⟩ := s
  simp only at h hlen
  cases o
  · by_cases h1 : trig ≤ l
    · refine (wl_trig B M t out cond trig l ys ws x P n c w h h1 (by omega) hB hp hn 0).mono ?_
      rintro e w' ⟨rfl, h2, h3⟩
      have : TS.line cond trig ⟨false, ys, ws⟩ (l, x) = ⟨true, ys ++ ws.map (·.2) ++ [x], []⟩ := by simp [TS.line, h1]
      rw [this]
      exact ⟨rfl, h2.open_any, h3⟩
    · obtain ⟨v, buf, q1, q2, q3, q4, q5, q6⟩ := h
      by_cases h2 : cond < l
      · have : TS.line cond trig ⟨false, ys, ws⟩ (l, x) = ⟨false, ys ++ [x], ws⟩ := by simp [TS.line, h1, h2]
        rw [this]
        exact (wl_pass B t out cond trig l buf v ys x P n c w q1 (by omega) h2 q2 (by omega) hB hp hn).mono fun e w' hq => pass_any hq q3 q4 q5 q6 hM
      · have : TS.line cond trig ⟨false, ys, ws⟩ (l, x) = ⟨false, ys, ws ++ [(l, x)]⟩ := by simp [TS.line, h1, h2]
        rw [this]
        rcases q5 rfl with ⟨rfl, rfl⟩ | ⟨bb, g, cap, rfl, e1, e2, e3, e4⟩
        · refine (wl_nil B t out cond trig l v ys x P n c w q1 (by omega) (by omega) q2 q3 hx hB hp).mono fun e w' hq => ?_
          exact hq
        · refine (wl_buf B M t out bb g cap cond trig l v ys ws x P n c w q1 e4 e1 e2 e3 (by omega) (by omega) q2 q3 q4 (by omega) hx hB hp hP).mono fun e w' hq => ?_
          exact hq
  · obtain ⟨v, buf, q1, q2, q3, q4, q5, q6⟩ := h
    have : TS.line cond trig ⟨true, ys, ws⟩ (l, x) = ⟨true, ys ++ [x], ws⟩ := by simp [TS.line]
    rw [this]
    exact (wl_open B t out cond trig l buf v ys x P n c w q1 q2 (by omega) hB hp hn).mono fun e w' hq => pass_any (M := M) hq q3 q4 (fun h => by cases h) q6 hM
theorem conv_below (W : World) (s : ByteArray) : Below W.heap.size W (Lib.bytesWorld W 5 s) := ⟨rfl, rfl, rfl, by rw [Lib.bytesWorld_size]; omega, fun k hk => Lib.bytesWorld_at_old W _ s k hk⟩
theorem conv_pb (W : World) (s : ByteArray) : PB (Lib.bytesWorld W 5 s) (some ⟨W.heap.size, 0, none⟩) s.size s := by
  refine ⟨_, _, _, rfl, rfl, Lib.bytesWorld_at_new W _ s, fun i hi => ?_⟩
  have h := Lib.bytesWorld_cell W 5 s i hi
  rw [cell_of_row _ _ i _ _ _ (Lib.bytesWorld_at_new W 5 s)] at h
  rw [h, List.getD_eq_getElem?_getD, List.getElem?_eq_getElem (by simpa using hi)]
  rfl
end Go.Proofs.YtdbnconphcaclaaDoor
