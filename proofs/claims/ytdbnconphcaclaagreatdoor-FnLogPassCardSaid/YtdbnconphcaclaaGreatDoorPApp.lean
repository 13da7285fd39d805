/-
  zerolog's JSON encoder: the appends that an event makes, at plain texts. Conditions: as each theorem says.
-/
import Derived.Test.YtdbnconphcaclaaGreatDoorSmall
namespace Go.Proofs.YtdbnconphcaclaaGreatDoor
open Go.RowKit
set_option linter.unusedVariables false

/-- Blocks of other types than bytes stay. -/
def Kp (w w' : World) : Prop := ∀ (g : Nat) (T : TypeId) (cs : Array Value), Blk w g T cs → T ≠ 5 → Blk w' g T cs
theorem Kp.refl (w : World) : Kp w w := fun _ _ _ h _ => h
theorem Kp.trans {a b c : World} (h : Kp a b) (k : Kp b c) : Kp a c := fun g T cs hb hT => k g T cs (h g T cs hb hT) hT
theorem Kp.of {w w' : World} {B : Nat} {v : Value} {A : List UInt8} (h : OwnB w B v A) (hg : w.grownBy w' v.ownBlock) : Kp w w' := fun g T cs hb hT => hb.grown hg (fun e => own_blk_ne h hb (fun e2 => hT e2.symm) e.symm)
theorem Kp.alloc (w : World) (o : Obj) : Kp w (w.alloc o) := fun _ _ _ hb _ => hb.alloc o
/-- What an append of m to A leaves. -/
def App (B : Nat) (w : World) (T : List UInt8) (v' : Value) (w' : World) : Prop := OwnB w' B v' T ∧ Below B w w' ∧ Kp w w' ∧ w.heap.size ≤ w'.heap.size
section
variable {ops : Array Oper} {rest : List Oper} {o : Oper} {a : Act} {Q : Exit → Act → World → Prop} {w : World} {B c g : Nat} {v : Value} {A : List UInt8}
theorem ap_s (sl x : Operand) (hgd : o.guard = none) (ho : o.op = .call { callee := .builtin .append, args := #[sl, x], argTypes := #[43, 9] })
    (hs : a.eval sl = v) (hown : OwnB w B v A) (s : ByteArray) (hx : a.eval x = .string s) (hlen : A.length + s.size ≤ 100000) (hB : B ≤ w.heap.size)
    (h : ∀ v' w', App B w (A ++ s.data.toList) v' w' → wpList Tryz.prog ops Q rest (a.put o.dst v') w') : wpList Tryz.prog ops Q (o :: rest) a w := by
  obtain ⟨ti, hi, hz0, hz1, hz2⟩ := info_parts byte_info
  refine Lib.wpList_append_own_string _ hgd sl x 43 9 ho B 5 ti Tryz.underlying43 Tryz.underlying9 hi hz0 hz1 hz2 v _ _ hs hown s hx (by unfold maxLen; omega) (by omega) hB ?_
  intro v' w' ho' hg' _
  exact h v' w' ⟨hown.more ho' rfl (Lib.size_eq s), own_below hown hg' hB, Kp.of hown hg', hg'.size⟩
theorem ap_l (sl x : Operand) (hgd : o.guard = none) (ho : o.op = .call { callee := .builtin .append, args := #[sl, x], argTypes := #[43, 43] })
    (hs : a.eval sl = v) (hown : OwnB w B v A) (m : List UInt8) (cs : Array Value) (hcs : cs = (bytesV m).toArray) (hg : g = w.heap.size) (hx : a.eval x = .slice (some ⟨g, 0, none⟩) m.length c) (hlen : A.length + m.length ≤ 100000) (hB : B ≤ w.heap.size)
    (h : ∀ v' w', App B w (A ++ m) v' w' → wpList Tryz.prog ops Q rest (a.put o.dst v') w') : wpList Tryz.prog ops Q (o :: rest) a (w.alloc (.cells cs 5)) := by
  subst hg
  obtain ⟨ti, hi, hz0, hz1, hz2⟩ := info_parts byte_info
  subst hcs
  refine wpList_append_own _ hgd sl x 43 ho B 5 ti (.int .u8 0) 1 1 Tryz.underlying43 hi hz0 hz1 hz2 rfl (by decide) v _ _ hs (World.ownsRow.alloc hown _) ⟨w.heap.size, 0, none⟩ m.length c (bytesV m) hx (by rw [bytesV_length, Nat.mul_one])
    (by simpa using World.news_of_block (heap_alloc_new w (.cells (bytesV m).toArray 5))) (fun u hu => ?_) (by unfold maxLen; omega) (by omega) (by simp; omega) ?_
  · simp only [bytesV, List.mem_map] at hu
    obtain ⟨b, _, rfl⟩ := hu
    rfl
  · intro v' w' ho' hg' _
    have hsz : (w.alloc (.cells (bytesV m).toArray 5)).heap.size = w.heap.size + 1 := by simp
    have := hg'.size
    exact h v' w' ⟨hown.more ho' rfl rfl, ((Below.refl B w).alloc hB _).grown hg' (by omega) (fun k e => (hown.lt k e).1), (Kp.alloc w _).trans (Kp.of (show OwnB _ B v A from World.ownsRow.alloc hown _) hg'), by omega⟩
end
theorem OwnB.alloc {w : World} {B : Nat} {v : Value} {A : List UInt8} (h : OwnB w B v A) (o : Obj) : OwnB (w.alloc o) B v A := World.ownsRow.alloc h o
theorem App.box {w w' : World} {B : Nat} {T : List UInt8} {v : Value} {o : Obj} (h : App B (w.alloc o) T v w') (hB : B ≤ w.heap.size) : App B w T v w' := by
  obtain ⟨h1, h2, h3, h4⟩ := h
  simp at h4
  exact ⟨h1, ((Below.refl B w).alloc hB o).trans h2, (Kp.alloc w o).trans h3, by omega⟩
theorem App.trans {w w1 w2 : World} {B : Nat} {T1 T2 : List UInt8} {v1 v2 : Value} (h : App B w T1 v1 w1) (k : App B w1 T2 v2 w2) : App B w T2 v2 w2 := ⟨k.1, h.2.1.trans k.2.1, h.2.2.1.trans k.2.2.1, Nat.le_trans h.2.2.2 k.2.2.2⟩
/-- What these calls give. -/
def AppRet (B : Nat) (w : World) (T : List UInt8) (e : Ending) (w' : World) : Prop := ∃ v, e = .returned v ∧ App B w T v w'
set_option maxRecDepth 100000 in
theorem begin_any (B : Nat) (v : Value) (A : List UInt8) (w : World) (h : OwnB w B v A) (hl : A.length ≤ 1000) (hB : B ≤ w.heap.size) : Calls Tryz.prog 84 #[.agg #[], v] w (AppRet B w (A ++ [123])) := by
  obtain ⟨A0, c0, rfl⟩ := own_slice h
  have H := Lib.hid h
  clear h
  go_enter Tryz.func84, Tryz.ntmps84
  go_wp2_with (at_builtin; refine ap_l _ _ rfl rfl rfl (H.out.alloc _) [123] _ (by rfl) (by simp) rfl (by simp; omega) (by simp; omega) ?_; intro v1 w1 h1; have H1 := Lib.hid h1; clear h1)
  go_ret
  exact ⟨_, rfl, H1.out.box hB⟩
set_option maxRecDepth 100000 in
theorem end_any (B : Nat) (v : Value) (A : List UInt8) (w : World) (h : OwnB w B v A) (hl : A.length ≤ 1000) (hB : B ≤ w.heap.size) : Calls Tryz.prog 90 #[.agg #[], v] w (AppRet B w (A ++ [125])) := by
  obtain ⟨A0, c0, rfl⟩ := own_slice h
  have H := Lib.hid h
  clear h
  go_enter Tryz.func90, Tryz.ntmps90
  go_wp2_with (at_builtin; refine ap_l _ _ rfl rfl rfl (H.out.alloc _) [125] _ (by rfl) (by simp) rfl (by simp; omega) (by simp; omega) ?_; intro v1 w1 h1; have H1 := Lib.hid h1; clear h1)
  go_ret
  exact ⟨_, rfl, H1.out.box hB⟩
set_option maxRecDepth 100000 in
theorem break_any (B : Nat) (v : Value) (A : List UInt8) (w : World) (h : OwnB w B v A) (hl : A.length ≤ 1000) (hB : B ≤ w.heap.size) : Calls Tryz.prog 111 #[.agg #[], v] w (AppRet B w (A ++ [10])) := by
  obtain ⟨A0, c0, rfl⟩ := own_slice h
  have H := Lib.hid h
  clear h
  go_enter Tryz.func111, Tryz.ntmps111
  go_wp2_with (at_builtin; refine ap_l _ _ rfl rfl rfl (H.out.alloc _) [10] _ (by rfl) (by simp) rfl (by simp; omega) (by simp; omega) ?_; intro v1 w1 h1; have H1 := Lib.hid h1; clear h1)
  go_ret
  exact ⟨_, rfl, H1.out.box hB⟩
/-- Bytes that are written as they are. -/
def Plain (s : ByteArray) : Prop := ∀ i (h : i < s.size), 35 ≤ s[i].toNat ∧ s[i].toNat ≤ 126 ∧ s[i].toNat ≠ 92
theorem noesc (b : UInt8) (h : 35 ≤ b.toNat ∧ b.toNat ≤ 126 ∧ b.toNat ≠ 92) (w : World) : Calls Tryz.prog 131 #[.int .u8 b.toNat] w fun e w' => e = .returned (.bool true) ∧ w = w' := by
  obtain ⟨n, hn⟩ : ∃ n : Int, n = (b.toNat : Int) := ⟨_, rfl⟩
  have h1 : n ≤ 126 := by omega
  have h2 : 32 ≤ n := by omega
  have h3 : (n != 92) = true := by simp; omega
  have h4 : (n != 34) = true := by simp; omega
  rw [← hn]
  clear hn h
  go_enter Tryz.func131, Tryz.ntmps131
  go_wp2
  go_ret
  exact ⟨rfl, rfl⟩
set_option maxRecDepth 100000 in
set_option maxHeartbeats 1000000 in
theorem string_any (B : Nat) (v : Value) (A : List UInt8) (s : ByteArray) (w : World) (h : OwnB w B v A) (hl : A.length ≤ 1000) (hs : Plain s) (hsz : s.size ≤ 1000) (hB : B ≤ w.heap.size) : Calls Tryz.prog 115 #[.agg #[], v, .string s] w (AppRet B w (A ++ [34] ++ s.data.toList ++ [34])) := by
  obtain ⟨A0, c0, rfl⟩ := own_slice h
  have H := Lib.hid (And.intro h hs)
  have hsl : s.data.toList.length = s.size := (size_list s).symm
  clear h hs
  go_enter Tryz.func115, Tryz.ntmps115
  go_wp2_with (at_builtin; refine ap_l _ _ rfl rfl rfl (H.out.1.alloc _) [34] _ (by rfl) (by simp) rfl (by simp; omega) (by simp; omega) ?_; intro v1 w1 h1; have H1 := Lib.hid h1; clear h1)
  go_loop [1, 7] (fun d i => ∃ k : Nat, k ≤ s.size ∧ v1 = d ∧ i = .int .i64 k) (fun _ i => s.size - (intOf i).toNat)
  case atStart => exact ⟨0, Nat.zero_le _, rfl, rfl⟩
  case round =>
    obtain ⟨k, hk, rfl, rfl⟩ := hrel
    by_cases hlt : k < s.size
    · go_wp2_with (go_at_call 131; refine (noesc _ (H.out.2 k hlt) _).mono ?_; rintro e w' ⟨rfl, rfl⟩)
      go_round
      case rel => exact ⟨k + 1, by omega, rfl, by go_num⟩
      case measure => simp [intOf]; omega
    · have hB1 : B ≤ w1.heap.size := by have := H1.out.2.2.2; simp at this; omega
      go_wp2_with (first
        | (at_builtin; have _ := hone; refine ap_l _ _ rfl rfl rfl H2.out.1 [34] _ (by rfl) rfl rfl (by simp; omega) (by have := H2.out.2.2.2; omega) ?_; intro v3 w3 h3; have H3 := Lib.hid h3; clear h3)
        | (at_builtin; refine ap_s _ _ rfl rfl rfl H1.out.1 s rfl (by simp; omega) hB1 ?_; intro v2 w2 h2; have H2 := Lib.hid h2; have hone : 0 = 0 := rfl; clear h2))
      go_ret
      have e : A ++ [34] ++ s.data.toList ++ [34] = A ++ 34 :: (s.data.toList ++ [34]) := by simp
      exact ⟨_, rfl, e ▸ (H1.out.trans (H2.out.trans H3.out)).box hB⟩
theorem own_last {w : World} {B n c : Nat} {P : Option Addr} {A : List UInt8} (h : OwnB w B (.slice P n c) A) (h0 : 1 ≤ A.length) : ∃ g, P = some ⟨g, 0, none⟩ ∧ n = A.length ∧ n ≤ c ∧ ∃ x : UInt8, w.cell? ⟨g, n - 1, none⟩ = some (.int .u8 x.toNat) := by
  obtain ⟨hlen, h1 | ⟨g, cap, cur, hv, hg, hc, hn, hcap, hsz, ht⟩⟩ := id h
  · have := h1.2
    omega
  · injection hv with e1 e2 e3
    subst e1 e2 e3
    refine ⟨g, rfl, rfl, hn, ?_⟩
    rcases own_bytes h with ⟨e, -⟩ | ⟨g', c', e, -, hb⟩
    · cases e
    · injection e with e1
      obtain rfl : g = g' := by simpa using e1
      have hi : A.length - 1 < (⟨A.toArray⟩ : ByteArray).size := by simp [ByteArray.size]; omega
      have := hb (A.length - 1) hi
      rw [Nat.zero_add] at this
      exact ⟨_, this⟩
set_option maxRecDepth 100000 in
set_option maxHeartbeats 1000000 in
/-- AppendKey: some text is appended. -/
theorem key_any (B : Nat) (v : Value) (A : List UInt8) (s : ByteArray) (w : World) (h : OwnB w B v A) (h0 : 1 ≤ A.length) (hl : A.length ≤ 900) (hs : Plain s) (hsz : s.size ≤ 20) (hB : B ≤ w.heap.size) : Calls Tryz.prog 110 #[.agg #[], v, .string s] w fun e w' => ∃ T, T.length ≤ A.length + 30 ∧ A.length ≤ T.length ∧ AppRet B w T e w' := by
  obtain ⟨A0, c0, rfl⟩ := own_slice h
  obtain ⟨g, rfl, -, hnc, x, hx⟩ := own_last h h0
  have H := Lib.hid (And.intro h hs)
  have hsl : s.data.toList.length = s.size := (size_list s).symm
  obtain ⟨n, hn⟩ : ∃ n, n = A.length := ⟨_, rfl⟩
  have HN := Lib.hid hn
  rw [← hn] at hx hnc h0 hl
  clear h hs
  rw [← hn]
  clear hn
  have hg : g < w.heap.size := World.block_lt_of_cell? w _ hx
  have hxa : ∀ o, (w.alloc o).cell? ⟨g, n - 1, none⟩ = some (.int .u8 x.toNat) := fun o => by rw [World.cell?_alloc_lt w o ⟨g, n - 1, none⟩ hg]; exact hx
  have hown : ∀ o, OwnB (w.alloc o) B (.slice (some ⟨g, 0, none⟩) n c0) A := fun o => by rw [HN.out]; exact H.out.1.alloc o
  have HO := Lib.hid hown
  clear hown
  have hnl : A.length ≤ 900 := by have := HN.out; omega
  by_cases hbr : x.toNat = 123
  · have hb1 : ((x.toNat : Int) != 123) = false := by simp; omega
    go_enter Tryz.func110, Tryz.ntmps110
    go_wp2_with (first
      | (at_builtin; have _ := hone; refine ap_l _ _ rfl rfl rfl H2.out.1 [58] _ (by rfl) rfl rfl (by simp; omega) (by have := H2.out.2.2.2; simp at this; omega) ?_; intro v3 w3 h3; have H3 := Lib.hid h3; clear h3)
      | (go_at_call 115; refine (string_any B _ A s _ (HO.out _) (by omega) H.out.2 (by omega) (by simp; omega)).mono ?_; rintro e w2 ⟨v2, rfl, h2⟩; have H2 := Lib.hid h2; have hone : 0 = 0 := rfl; clear h2))
    go_ret
    exact ⟨_, by have := HN.out; simp; omega, by have := HN.out; simp; omega, _, rfl, (H2.out.trans H3.out).box hB⟩
  · have hb1 : ((x.toNat : Int) != 123) = true := by simp; omega
    go_enter Tryz.func110, Tryz.ntmps110
    go_wp2_with (first
      | (at_builtin; have _ := htwo; refine ap_l _ _ rfl rfl rfl H2.out.1 [58] _ (by rfl) rfl rfl (by simp; omega) (by have := H2.out.2.2.2; have := H1.out.2.2.2; simp at *; omega) ?_; intro v3 w3 h3; have H3 := Lib.hid h3; clear h3)
      | (go_at_call 115; refine (string_any B _ (A ++ [44]) s _ H1.out.1 (by simp; omega) H.out.2 (by omega) (by have := H1.out.2.2.2; simp at this; omega)).mono ?_; rintro e w2 ⟨v2, rfl, h2⟩; have H2 := Lib.hid h2; have htwo : 0 = 0 := rfl; clear h2)
      | (at_builtin; refine ap_l _ _ rfl rfl rfl (HO.out _) [44] _ (by rfl) (by simp) rfl (by simp; omega) (by simp; omega) ?_; intro v1 w1 h1; have H1 := Lib.hid h1; clear h1))
    go_ret
    exact ⟨_, by have := HN.out; simp; omega, by have := HN.out; simp; omega, _, rfl, (H1.out.trans (H2.out.trans H3.out)).box hB⟩
end Go.Proofs.YtdbnconphcaclaaGreatDoor
