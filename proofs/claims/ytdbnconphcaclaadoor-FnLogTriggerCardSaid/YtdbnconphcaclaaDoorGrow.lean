/-
  bytes.Buffer, with its row's place told: grow. Conditions: as each theorem says.
-/
import Derived.Test.YtdbnconphcaclaaDoorWriter
import Derived.Test.YtdbnconphcaclaaDoorShelfBuf
namespace Go.Proofs.YtdbnconphcaclaaDoor
open Go.RowKit
set_option linter.unusedVariables false

theorem tg_room (b l cap n : Nat) (ao : Option Addr) (w : World) (c0 : w.cell? ⟨b, 0, none⟩ = some (.slice ao l cap)) (f0 : w.frozen? ⟨b, 0, none⟩ = false) (hlc : l ≤ cap) (hcap : cap ≤ maxLen) (hn : n ≤ cap - l) :
    Calls Tryd.prog 82 #[.pointer (some ⟨b, 0, none⟩), .int .i64 n] w fun e w' => e = .returned (.tuple #[.int .i64 l, .bool true]) ∧ w' = w.setCell ⟨b, 0, none⟩ (.slice ao (l + n) cap) := Any.Buffer_tryGrow_room_at { Tryd.laysM180 with } b 0 ao l cap n w c0 f0 hlc hcap hn
theorem tg_none (b l cap n : Nat) (ao : Option Addr) (w : World) (c0 : w.cell? ⟨b, 0, none⟩ = some (.slice ao l cap)) (hlc : l ≤ cap) (hcap : cap ≤ maxLen) (hn : cap - l < n) :
    Calls Tryd.prog 82 #[.pointer (some ⟨b, 0, none⟩), .int .i64 n] w fun e w' => e = .returned (.tuple #[.int .i64 0, .bool false]) ∧ w' = w := Any.Buffer_tryGrow_none_at { Tryd.laysM180 with } b 0 ao l cap n w c0 hlc hcap hn
theorem gs_row (g l c n : Nat) (cur : Array Value) (w : World) (hg : w.heap[g]? = some (.cells cur 5 (0, 0))) (hcs : cur.size = c) (hlc : l ≤ c) (hn : 1 ≤ n) (hlim : l + n ≤ 140737488355328) (hc2 : c ≤ 140737488355328) (h1 : ∀ v ∈ cur.toList.take l, v.oneCell' = true) :
    Calls Tryd.prog 106 #[.slice (some ⟨g, 0, none⟩) l c, .int .i64 n] w fun e w' => ∃ cap2 cells, e = .returned (.slice (some ⟨w.heap.size, 0, none⟩) l cap2) ∧ w'.heap[w.heap.size]? = some (.cells cells 5 (0, 0)) ∧ cells.size = cap2 ∧ cells.toList.take l = cur.toList.take l ∧ l + n ≤ cap2 ∧ cap2 ≤ maxLen ∧ Below w.heap.size w w' := Any.bytes_growSlice_row { Tryd.laysM180 with } g l c n cur w hg hcs hlc hn hlim hc2 h1

/-- The buffer at b: its row in block g, of cap cells, l written, k cells shown. -/
def Res (w : World) (b g cap k : Nat) (l : List UInt8) : Prop := ∃ lr cur, Blk w b 145 #[.slice (some ⟨g, 0, none⟩) k cap, .int .i64 0, .int .i8 lr] ∧ Blk w g 5 cur ∧ k ≤ cap ∧ l.length ≤ k ∧ 1024 ≤ cap ∧ cap ≤ maxLen ∧ cur.size = cap ∧ cur.toList.take l.length = bytesV l
theorem bytesV_one (l : List UInt8) : ∀ v ∈ bytesV l, v.oneCell' = true := by
  intro v hv
  obtain ⟨x, -, rfl⟩ := List.mem_map.1 hv
  rfl

theorem grow_done {w w1 w2 : World} {b k n n1 cap cap2 g : Nat} {lr : Int} {l : List UInt8} {cur cells : Array Value} (hw1 : w1 = w.drewN n1) (hb : Blk w b 145 #[.slice (some ⟨g, 0, none⟩) k cap, .int .i64 0, .int .i8 lr]) (hk : k = l.length) (htk : cur.toList.take l.length = bytesV l) (hc1 : 1024 ≤ cap) (hroom : cap - k < n)
    (h2 : Blk w2 b 145 #[.slice (some ⟨g, 0, none⟩) k cap, .int .i64 0, .int .i8 lr] ∧ w2.heap[w1.drew.heap.size]? = some (.cells cells 5) ∧ cells.size = cap2 ∧ cells.toList.take k = cur.toList.take k ∧ k + n ≤ cap2 ∧ cap2 ≤ maxLen ∧ Below w1.drew.heap.size w1.drew w2) :
    ∃ c9, Res (((w2.setCell ⟨b, 0, none⟩ (.slice (some ⟨w1.heap.size, 0, none⟩) k cap2)).setCell ⟨b, 1, none⟩ (.int .i64 0)).setCell ⟨b, 0, none⟩ (.slice (some ⟨w1.heap.size, 0, none⟩) (k + n) cap2)) b w.heap.size c9 (k + n) l ∧ w.grownBy (((w2.setCell ⟨b, 0, none⟩ (.slice (some ⟨w1.heap.size, 0, none⟩) k cap2)).setCell ⟨b, 1, none⟩ (.int .i64 0)).setCell ⟨b, 0, none⟩ (.slice (some ⟨w1.heap.size, 0, none⟩) (k + n) cap2)) (some b) := by
  subst hw1
  obtain ⟨q1, q2, q3, q4, q5, q6, q7⟩ := h2
  have hsz : (w.drewN n1).drew.heap.size = w.heap.size := rfl
  rw [hsz] at q2 q7
  have hsz2 : (w.drewN n1).heap.size = w.heap.size := rfl
  rw [hsz2]
  have hbl := hb.lt
  refine ⟨cap2, ⟨lr, cells, ?_, ?_, by omega, by omega, by omega, q6, q3, by rw [← htk, ← hk]; exact q4⟩, ?_⟩
  · have := ((q1.set_ 0 (.slice (some ⟨w.heap.size, 0, none⟩) k cap2)).set_ 1 (.int .i64 0)).set_ 0 (.slice (some ⟨w.heap.size, 0, none⟩) (k + n) cap2)
    simpa using this
  · exact ((Blk.far (g := w.heap.size) (w := w2) q2 (p := ⟨b, 0, none⟩) (by simp; omega) _).far (p := ⟨b, 1, none⟩) (by simp; omega) _).far (p := ⟨b, 0, none⟩) (by simp; omega) _
  · have h0 : w.grownBy w2 (some b) := only_of_below (a := w) (w := w2) ⟨q7.os, q7.tape, q7.output, q7.size, q7.block⟩ (some b)
    exact only_setCell (only_setCell (only_setCell h0 (.inl rfl) _) (.inl rfl) _) (.inl rfl) _
set_option maxRecDepth 100000 in
theorem len_x (b k cap : Nat) (ao : Option Addr) (w : World) (c0 : w.cell? ⟨b, 0, none⟩ = some (.slice ao k cap)) (c1 : w.cell? ⟨b, 1, none⟩ = some (.int .i64 0)) (hk : k ≤ 100000) :
    Calls Tryd.prog 104 #[.pointer (some ⟨b, 0, none⟩)] w fun e w' => e = .returned (.int .i64 k) ∧ ∃ n, w' = w.drewN n := by
  go_enter Tryd.func104, Tryd.ntmps104
  go_wp2
  go_quiet (fail)
  go_wp2
  go_ret
  exact ⟨rfl, _, rfl⟩
set_option maxRecDepth 100000 in
set_option maxHeartbeats 1000000 in
theorem grow_x (b g cap n : Nat) (l : List UInt8) (w : World) (h : Res w b g cap l.length l) (hl0 : 1 ≤ l.length) (hl : l.length ≤ 100000) (hn : 1 ≤ n) (hn2 : n ≤ 1000) (hroom : cap - l.length < n) :
    Calls Tryd.prog 83 #[.pointer (some ⟨b, 0, none⟩), .int .i64 n] w fun e w' => e = .returned (.int .i64 l.length) ∧ ∃ cap2, Res w' b w.heap.size cap2 (l.length + n) l ∧ w.grownBy w' (some b) := by
  obtain ⟨lr, cur, hb, hg, hk, -, hc1, hc2, hcs, htk⟩ := h
  have hnil : ∀ W, (binOp .eql 29 (.slice (some ⟨g, 0, none⟩) l.length cap) (.slice none 0 0)).run Tryd.prog W = .ok (.bool false) W := fun W => Lib.run_eql_slice_some_nil W _ _ _ Tryd.underlying29
  obtain ⟨k, hk0⟩ : ∃ k, k = l.length := ⟨_, rfl⟩
  rw [← hk0] at hb hk hl0 hl hroom hnil
  have c0 := hb.cell 0
  have c1 := hb.cell 1
  have f0 := hb.frozen 0
  have f1 := hb.frozen 1
  simp at c0 c1
  have hcm : cap ≤ maxLen := hc2
  unfold maxLen at hc2
  have hwn : IntKind.i64.wrap (n : Int) = n := by rw [IntKind.wrap_i64]; omega
  have hc3 : cap ≤ 140737488355328 := by omega
  have H := Lib.hid (And.intro hb (And.intro hg (And.intro hcs (And.intro htk hcm))))
  clear hb hg hcs htk hcm
  rw [← hk0]
  have H0 := Lib.hid hk0
  clear hk0
  go_enter Tryd.func83, Tryd.ntmps83
  go_wp2_with (first
    | (go_at_call 82; refine (tg_none b k cap n _ _ h1.2.1 hk H.out.2.2.2.2 hroom).mono ?_; rintro e w' ⟨rfl, rfl⟩)
    | (go_at_call 104; refine (len_x b k cap _ _ c0 c1 hl).mono ?_; rintro e w1 ⟨rfl, n1, hw1⟩; have h1 : Blk w1 b 145 _ ∧ w1.cell? ⟨b, 0, none⟩ = some (.slice (some ⟨g, 0, none⟩) k cap) ∧ w1.cell? ⟨b, 1, none⟩ = some (.int .i64 0) ∧ w1.frozen? ⟨b, 0, none⟩ = false ∧ w1.frozen? ⟨b, 1, none⟩ = false := (by rw [hw1]; exact ⟨H.out.1, c0, c1, f0, f1⟩); have d0 := h1.2.1; have d1 := h1.2.2.1; have d2 := h1.2.2.2.1; have d3 := h1.2.2.2.2; have HW := Lib.hid hw1; clear hw1))
  have mixed : Tryd.prog.follows Departure.mixedOrders = true := by kernel_rfl
  have hone : ∀ v ∈ cur.toList.take k, v.oneCell' = true := by rw [H0.out, H.out.2.2.2.1]; exact bytesV_one l
  have hg1 : Blk w' g 5 cur := by rw [HW.out]; exact H.out.2.1
  have HG := Lib.hid (And.intro h1.1 hg1)
  have hbw := h1.1.lt
  clear h1 hg1 c0 c1 f0 f1
  go_region_with_o (
    go_at_call 106
    go_loud (refine (gs_row g k cap n cur _ ?_ H.out.2.2.1 hk hn (by omega) hc3 hone).mono ?_)
    exact HG.out.2
    rintro e w2 ⟨cap2, cells, rfl, hN, hcsz, htk2, hcap2, hcm2, hbel⟩
    have hb2 := HG.out.1.drew.below hbel hbw
    have e0 := hb2.cell 0
    have e1 := hb2.cell 1
    have e2 := hb2.frozen 0
    have e3 := hb2.frozen 1
    simp at e0 e1
    have H2 := Lib.hid (And.intro hb2 (And.intro hN (And.intro hcsz (And.intro htk2 (And.intro hcap2 (And.intro hcm2 hbel))))))
    clear hb2 hN hcsz htk2 hbel)
  all_goals (
    go_wp2
    go_ret
    exact ⟨rfl, grow_done HW.out H.out.1 H0.out H.out.2.2.2.1 hc1 hroom H2.out⟩)
end Go.Proofs.YtdbnconphcaclaaDoor
