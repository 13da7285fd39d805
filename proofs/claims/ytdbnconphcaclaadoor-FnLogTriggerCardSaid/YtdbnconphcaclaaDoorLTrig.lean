/-
  impl.LTrigger: what comes out of a list of operations. Conditions: as the theorem says.
-/
import Derived.Test.YtdbnconphcaclaaDoorSTrig
import Derived.Deep.QuietTactic
import Derived.BigQuiet
namespace Go.Proofs.YtdbnconphcaclaaDoor
open Go.RowKit
set_option linter.unusedVariables false

theorem idx_text {x : Int × ByteArray} (h : WOk x) : Lib.indexByte x.2.data.toList ((10 : Int).toNat.toUInt8) = (x.2.size : Int) - 1 := by
  obtain ⟨a, e, h1, h2⟩ := line_split h
  have := idx_of a [] h1
  rw [show ((10 : Int).toNat.toUInt8) = 10 from rfl, e, this]
  omega
theorem strings_idx (x : Int × ByteArray) (h : WOk x) (w : World) : Calls Tryd.prog 45 #[.string x.2, .int .u8 10] w fun e w' => e = .returned (.int .i64 ((x.2.size : Int) - 1)) ∧ w' = w := by
  refine (Tryd.strings_IndexByte x.2 10 w).mono ?_
  rintro e w' ⟨rfl, rfl⟩
  rw [idx_text h]
  exact ⟨rfl, rfl⟩
/-- What holds ahead of the operation k. -/
def TInv (B t out : Nat) (cond trig : Int) (L : List OpR) (k : Nat) (wr : World) : Prop := (k < L.length → St wr B wr.heap.size t out cond trig (tRun cond trig (L.take k)).o (tRun cond trig (L.take k)).ys (tRun cond trig (L.take k)).ws) ∧ ∃ v, Sink wr B out v (tRun cond trig (L.take k)).ys
theorem TInv.of_st {wr : World} {B M t out k : Nat} {cond trig : Int} {L : List OpR} {s : TS} (hs : tRun cond trig (L.take k) = s) (h : St wr B M t out cond trig s.o s.ys s.ws) (hM : M ≤ wr.heap.size) : TInv B t out cond trig L k wr := by
  unfold TInv
  rw [hs]
  obtain ⟨v, buf, h1, h2, h3, h4, h5, h6⟩ := h
  exact ⟨fun _ => ⟨v, buf, h1, h2, h3, h4, fun e => (h5 e).more hM, h6⟩, v, h2⟩
theorem TInv.of_close {wr : World} {B t out k : Nat} {cond trig : Int} {L : List OpR} {s : TS} (hk : k = L.length) (hs : tRun cond trig (L.take k) = s) (h : ∃ v, Sink wr B out v s.ys) : TInv B t out cond trig L k wr := by
  unfold TInv
  rw [hs]
  exact ⟨fun e => by omega, h⟩
theorem write_step {wr : World} (B t out n : Nat) (cond trig l : Int) (s : TS) (x : ByteArray) (c : Nat) (o : Obj) (h : St wr B wr.heap.size t out cond trig s.o s.ys s.ws) (hlen : s.ys.length + s.ws.length ≤ 100) (hx : WOk (l, x)) (hB : B ≤ wr.heap.size) :
    Calls Tryd.prog 46 #[.pointer (some ⟨t, 0, none⟩), .int .i8 l, .slice (some ⟨wr.heap.size + 1, 0, none⟩) x.size c] (Lib.bytesWorld ((wr.alloc o).drewN n) 5 x) fun e w' => e = .returned (.tuple #[.int .i64 x.size, .nilIface]) ∧ St w' B w'.heap.size t out cond trig (s.line cond trig (l, x)).o (s.line cond trig (l, x)).ys (s.line cond trig (l, x)).ws ∧ Below B wr w' := by
  have hsz : ((wr.alloc o).drewN n).heap.size = wr.heap.size + 1 := by simp [World.drewN]
  have h0 : Below wr.heap.size wr ((wr.alloc o).drewN n) := below_drewN ((Below.refl wr.heap.size wr).alloc (Nat.le_refl _) o) n
  have h1 : Below wr.heap.size wr (Lib.bytesWorld ((wr.alloc o).drewN n) 5 x) := h0.trans ((conv_below ((wr.alloc o).drewN n) x).mono (by rw [hsz]; omega))
  have hpb := conv_pb ((wr.alloc o).drewN n) x
  rw [hsz] at hpb
  refine (wl_any B wr.heap.size t out cond trig l s x _ _ c _ (h.below h1) hlen hx (Nat.le_trans hB h1.size) h1.size hpb (by rintro a e; injection e with e; rw [← e]; simp)).mono ?_
  rintro e w' ⟨h2, h3, h4⟩
  exact ⟨h2, h3, (h1.mono hB).trans h4⟩
theorem text_ne {s : ByteArray} (h : 1 ≤ s.size) : s.toList.isEmpty = false := by
  rw [Lib.toList_data]
  cases hl : s.data.toList with
  | nil =>
    have := size_list s
    rw [hl] at this
    simp only [List.length_nil] at this
    omega
  | cons x l => rfl
theorem text_ne2 {s : ByteArray} (h : 1 ≤ s.size) : (!s.toList.isEmpty) = true := by
  rw [text_ne h]
  rfl
theorem i8_id {l : Int} (h0 : -1 ≤ l) (h1 : l ≤ 7) : IntKind.i8.wrap l = l := by
  have : l = -1 ∨ l = 0 ∨ l = 1 ∨ l = 2 ∨ l = 3 ∨ l = 4 ∨ l = 5 ∨ l = 6 ∨ l = 7 := by omega
  rcases this with rfl | rfl | rfl | rfl | rfl | rfl | rfl | rfl | rfl <;> decide
theorem lb_ne10 {l : Int} (h0 : -1 ≤ l) (h1 : l ≤ 7) : (((lb l).toNat : Int) != 10) = true := by
  have : l = -1 ∨ l = 0 ∨ l = 1 ∨ l = 2 ∨ l = 3 ∨ l = 4 ∨ l = 5 ∨ l = 6 ∨ l = 7 := by omega
  rcases this with rfl | rfl | rfl | rfl | rfl | rfl | rfl | rfl | rfl <;> decide
theorem st_start (w : World) (cond trig : Int) : St ((w.alloc (.cells #[.slice none 0 0] 81)).alloc (.cells #[.iface 79 (.pointer (some ⟨w.heap.size, 0, none⟩)), .int .i8 cond, .int .i8 trig, .pointer none, .bool false] 101)) w.heap.size (w.heap.size + 2) (w.heap.size + 1) w.heap.size cond trig false [] [] := by
  have h2 := Blk.new (w.alloc (.cells #[.slice none 0 0] 81)) 101 #[.iface 79 (.pointer (some ⟨w.heap.size, 0, none⟩)), .int .i8 cond, .int .i8 trig, .pointer none, .bool false]
  rw [show (w.alloc (.cells #[.slice none 0 0] 81)).heap.size = w.heap.size + 1 by simp] at h2
  exact ⟨.slice none 0 0, .pointer none, h2, ⟨(Blk.new w _ _).alloc _, World.ownsRow_nil _ _ _ _, Nat.le_refl _⟩, by omega, (fun x hx => by cases hx), fun _ => .inl ⟨rfl, rfl⟩, fun h => by cases h⟩

set_option maxRecDepth 100000 in
set_option maxHeartbeats 1000000 in
theorem ltrigger (cond trig : Int) (A : Option Addr) (c : Nat) (L : List OpR) (w : World) (hc0 : -1 ≤ cond) (hc1 : cond ≤ 7) (ht0 : -1 ≤ trig) (ht1 : trig ≤ 7) (hL : L.length ≤ 40) (ho : OpsAt w w.heap.size A L) (hin : ∀ x ∈ L, LineOk x) (hcl : ClLast L) :
    Calls Tryd.prog 25 #[.int .i64 cond, .int .i64 trig, .slice A L.length c] w (TrigRet cond trig L w) := by
  have H := Lib.hid (And.intro ho (And.intro hin hcl))
  have hwc := i8_id hc0 hc1
  have hwt := i8_id ht0 ht1
  have HS := Lib.hid (st_start w cond trig)
  clear ho hin hcl
  go_enter Tryd.func25, Tryd.ntmps25
  go_wp2
  go_loopw [23] (fun i wr => ∃ k : Nat, k ≤ L.length ∧ i = .int .i64 k ∧ TInv w.heap.size (w.heap.size + 1) w.heap.size cond trig L k wr ∧ Below w.heap.size w wr) (fun i _ => L.length - (intOf i).toNat)
  case atStart => exact ⟨0, by omega, rfl, TInv.of_st (s := ⟨false, [], []⟩) rfl HS.out (by simp), ((Below.refl w.heap.size w).alloc (Nat.le_refl _) _).alloc (by simp) _⟩
  case round =>
    obtain ⟨k, hkl, rfl, hinv, hbel⟩ := hrel
    by_cases hlt : k < L.length
    · obtain ⟨b, o, x, hx, hx2, hA, hblk, c0, c1, c2, c3⟩ := (H.out.1.below hbel).at_ k hlt
      subst hA
      have hxo := H.out.2.1 x (List.mem_of_getElem? hx2)
      have hxc := H.out.2.2 k x hx2
      have htk := tRun_take cond trig L k x hx2
      have hlen := tRun_len cond trig L k hkl
      have hst := hinv.1 hlt
      have hsk := hinv.2
      obtain ⟨s, hs⟩ : ∃ s, s = tRun cond trig (L.take k) := ⟨_, rfl⟩
      rw [← hs] at htk hlen hst hsk
      obtain ⟨l, tx, t, cc⟩ := x
      simp only at c0 c1 c2 c3 hxc
      cases t
      · cases cc
        · have hwx : WOk (l, tx) := hxo.2 rfl rfl
          have hz1 : 1 ≤ tx.size := hwx.2.2.1
          have hz2 : tx.size ≤ 100 := hwx.2.2.2.1
          have hwl := i8_id hwx.1 hwx.2.1
          have hwu := u8_lb hwx.1 hwx.2.1
          have hnl := lb_ne10 hwx.1 hwx.2.1
          have hl0 : -1 ≤ l := hwx.1
          have hl1 : l ≤ 7 := hwx.2.1
          have hq : (((tx.size : Int) - 1) == IntKind.i64.wrap ((tx.size : Int) - 1)) = true := by
            rw [show IntKind.i64.wrap ((tx.size : Int) - 1) = (tx.size : Int) - 1 by rw [IntKind.wrap_i64]; omega]
            simp
          have hne := text_ne (s := tx) hz1
          have hne2 := text_ne2 (s := tx) hz1
          have hcv : ∀ W : World, (convert 9 29 (.string tx)).run Tryd.prog W = .ok (.slice (some ⟨W.heap.size, 0, none⟩) tx.size (grownCap W tx.size 0 5)) (Lib.bytesWorld W 5 tx) := fun W => Lib.run_convert_string_bytes W 9 29 5 tx Tryd.underlying9 Tryd.underlying29 Tryd.underlying5
          have HB := Lib.hid (And.intro hst (And.intro hbel (And.intro htk (And.intro hlen hwx))))
          clear hst hsk hinv hbel htk hs hx hx2 hxo hxc hlen hwx
          go_wp2
          go_quiet ((go_at_call 45; exact Calls.quiet_of_same (strings_idx (l, tx) HB.out.2.2.2.2 _)))
          go_wp2_with (go_at_call 46; refine (write_step w.heap.size (w.heap.size + 1) w.heap.size _ cond trig l s tx _ _ HB.out.1 (by have := HB.out.2.2.2.1; omega) HB.out.2.2.2.2 HB.out.2.1.size).mono ?_; rintro e w6 ⟨rfl, h1, h2⟩; have H6 := Lib.hid (And.intro h1 h2); clear h1 h2)
          exact ⟨⟨k + 1, hlt, by go_num, TInv.of_st (by rw [HB.out.2.2.1]; rfl) H6.out.1 (Nat.le_refl _), HB.out.2.1.trans H6.out.2⟩, by simp [intOf]; omega⟩
        · have hk1 : k + 1 = L.length := hxc rfl
          have HB := Lib.hid (And.intro hst (And.intro hbel (And.intro htk hbel.size)))
          clear hst hsk hinv hbel htk hs hx hx2 hxo hxc hlen
          go_wp2_with (go_at_call 44; refine (close_any w.heap.size wr.heap.size (w.heap.size + 1) w.heap.size cond trig s.o s.ys s.ws _ (HB.out.1.below ((Below.refl wr.heap.size wr).alloc (Nat.le_refl _) _))).mono ?_; rintro e w6 ⟨rfl, h1, h2⟩; have H6 := Lib.hid (And.intro h1 h2); clear h1 h2)
          exact ⟨⟨k + 1, hlt, by go_num, TInv.of_close hk1 (by rw [HB.out.2.2.1]; rfl) H6.out.1, (HB.out.2.1.alloc HB.out.2.2.2 _).trans H6.out.2⟩, by simp [intOf]; omega⟩
      · have HB := Lib.hid (And.intro hst (And.intro hbel (And.intro htk (And.intro hlen hbel.size))))
        clear hst hsk hinv hbel htk hs hx hx2 hxo hxc hlen
        go_wp2_with (go_at_call 43; refine (trigger_any w.heap.size wr.heap.size (w.heap.size + 1) w.heap.size cond trig s.o s.ys s.ws _ (HB.out.1.below ((Below.refl wr.heap.size wr).alloc (Nat.le_refl _) _)) (by have := HB.out.2.2.2.1; omega) (by have := HB.out.2.2.2.2; simp; omega) 0).mono ?_; rintro e w6 ⟨rfl, h1, h2⟩; have H6 := Lib.hid (And.intro h1 h2); clear h1 h2)
        exact ⟨⟨k + 1, hlt, by go_num, TInv.of_st (s := s.flush) (by rw [HB.out.2.2.1]; rfl) H6.out.1 (Nat.zero_le _), (HB.out.2.1.alloc HB.out.2.2.2.2 _).trans H6.out.2⟩, by simp [intOf]; omega⟩
    · obtain rfl : k = L.length := by omega
      obtain ⟨v, hsk⟩ := hinv.2
      rw [List.take_length] at hsk
      have e0 := hsk.1.cell 0
      simp at e0
      have HB := Lib.hid (And.intro hsk hbel)
      obtain ⟨A5, c5, rfl⟩ := own_slice hsk.2.1
      clear hsk hbel hinv
      go_wp2
      go_ret
      exact ⟨_, rfl, HB.out.1.2.1, HB.out.2⟩
end Go.Proofs.YtdbnconphcaclaaDoor
