/-
  impl.LSpan: a duration is written as spanT says. Conditions: as each theorem says.
-/
import Derived.Test.YtdbnconphcaclaaDoorFormat
import Derived.Test.YtdbnconphcaclaaDoorPad
namespace Go.Proofs.YtdbnconphcaclaaDoor
open Go.RowKit
set_option linter.unusedVariables false

/-- A duration of u nanoseconds, u not 0. -/
def spanU (u : Nat) : List UInt8 :=
  if u ≤ 999 then decs (u / 10 ^ 0) ++ (fracT u 0 ++ [110, 115])
  else if u ≤ 999999 then decs (u / 10 ^ 3) ++ (fracT u 3 ++ [194, 181, 115])
  else if u ≤ 999999999 then decs (u / 10 ^ 6) ++ (fracT u 6 ++ [109, 115])
  else if u ≤ 59999999999 then decs ((u / 10 ^ 9) % 60) ++ (fracT u 9 ++ [115])
  else if u ≤ 3599999999999 then decs ((u / 10 ^ 9) / 60 % 60) ++ (109 :: (decs ((u / 10 ^ 9) % 60) ++ (fracT u 9 ++ [115])))
  else decs ((u / 10 ^ 9) / 60 / 60) ++ (104 :: (decs ((u / 10 ^ 9) / 60 % 60) ++ (109 :: (decs ((u / 10 ^ 9) % 60) ++ (fracT u 9 ++ [115])))))
def spanT (d : Int) : List UInt8 := if d = 0 then [48, 115] else if d < 0 then 45 :: spanU (-d).toNat else spanU d.toNat

set_option maxRecDepth 100000 in
theorem format_zero (b : Nat) (w : World) (hb : BufT w b 32 []) :
    Calls Tryd.prog 47 #[.int .i64 0, .pointer (some ⟨b, 0, none⟩)] w (FmtRet b [48, 115] w) := by
  obtain ⟨x31, y31⟩ := hb.cell 31 (by decide)
  have z31 := hb.frozen 31
  obtain ⟨x30, y30⟩ := hb.cell 30 (by decide)
  have z30 := hb.frozen 30
  have HB := Lib.hid hb
  clear hb
  go_enter Tryd.func47, Tryd.ntmps47
  go_wp2
  go_ret
  exact ⟨30, rfl, by omega, BufT.put' (BufT.put' HB.out 115 115 (by decide) 31 (by decide) (by decide)) 48 48 (by decide) 30 (by decide) (by decide), only_at (only_at (only_of_below (Below.refl _ _) _) _ _) _ _⟩
theorem format_any (b : Nat) (d : Int) (w : World) (h0 : -9223372036854775808 ≤ d) (h1 : d ≤ 9223372036854775807) (hb : BufT w b 32 []) :
    Calls Tryd.prog 47 #[.int .i64 d, .pointer (some ⟨b, 0, none⟩)] w (FmtRet b (spanT d) w) := by
  unfold spanT
  by_cases hz : d = 0
  · subst hz
    rw [if_pos rfl]
    exact format_zero b w hb
  · rw [if_neg hz]
    by_cases hn : d < 0
    · rw [if_pos hn]
      obtain ⟨u, hu⟩ : ∃ u : Nat, u = (-d).toNat := ⟨_, rfl⟩
      rw [← hu]
      have hd : d = -(u : Int) := by omega
      rw [hd]
      have hu0 : 1 ≤ u := by omega
      have hu1 : u ≤ 9223372036854775808 := by omega
      clear hu hd h0 h1 hz hn
      unfold spanU
      by_cases h1 : u ≤ 999
      · rw [if_pos h1]; exact format_ns_neg b u _ rfl w hb hu0 h1
      rw [if_neg h1]
      by_cases h2 : u ≤ 999999
      · rw [if_pos h2]; exact format_us_neg b u _ rfl w hb (by omega) h2
      rw [if_neg h2]
      by_cases h3 : u ≤ 999999999
      · rw [if_pos h3]; exact format_ms_neg b u _ rfl w hb (by omega) h3
      rw [if_neg h3]
      by_cases h4 : u ≤ 59999999999
      · rw [if_pos h4]; exact format_s_neg b u _ rfl w hb (by omega) h4
      rw [if_neg h4]
      by_cases h5 : u ≤ 3599999999999
      · rw [if_pos h5]; exact format_m_neg b u _ rfl w hb (by omega) h5
      rw [if_neg h5]
      exact format_h_neg b u _ rfl w hb (by omega) hu1
    · rw [if_neg hn]
      obtain ⟨u, hu⟩ : ∃ u : Nat, u = d.toNat := ⟨_, rfl⟩
      rw [← hu]
      have hd : d = (u : Int) := by omega
      rw [hd]
      have hu0 : 1 ≤ u := by omega
      have hu1 : u ≤ 9223372036854775807 := by omega
      clear hu hd h0 h1 hz hn
      unfold spanU
      by_cases h1 : u ≤ 999
      · rw [if_pos h1]; exact format_ns_pos b u _ rfl w hb hu0 h1
      rw [if_neg h1]
      by_cases h2 : u ≤ 999999
      · rw [if_pos h2]; exact format_us_pos b u _ rfl w hb (by omega) h2
      rw [if_neg h2]
      by_cases h3 : u ≤ 999999999
      · rw [if_pos h3]; exact format_ms_pos b u _ rfl w hb (by omega) h3
      rw [if_neg h3]
      by_cases h4 : u ≤ 59999999999
      · rw [if_pos h4]; exact format_s_pos b u _ rfl w hb (by omega) h4
      rw [if_neg h4]
      by_cases h5 : u ≤ 3599999999999
      · rw [if_pos h5]; exact format_m_pos b u _ rfl w hb (by omega) h5
      rw [if_neg h5]
      exact format_h_pos b u _ rfl w hb (by omega) hu1

theorem slice32l (b k : Nat) (hk : k < 32) : ∀ w : World, (Instr.sliceAt 104 (.pointer (some ⟨b, 0, none⟩)) (some (.int .i64 k)) none none).run Tryd.prog w = .ok (.slice (some ⟨b, k, none⟩) (32 - k) (32 - k)) w := by
  intro w
  have he : Tryd.prog.elem 104 = 5 := by kernel_rfl
  rw [run_sliceAt_array_l w 104 ⟨b, 0, none⟩ (by rw [arr32, he]; exact Tryd.underlying104) .i64 k (by omega) (by rw [arr32]; omega), arr32]
  obtain ⟨ti, hi, hz0, hz1, hz2⟩ := info_parts byte_info
  simp [sizeOf, typeInfo, hi, hz1, slicedAt, he, Addr.add_lit, show ¬ 32 = k by omega]
theorem BufT.text {w : World} {b k : Nat} {l : List UInt8} (h : BufT w b k l) (hk : k ≤ 32) : Lib.Bytes w b k ⟨l.toArray⟩ := by
  have hl := h.length
  obtain ⟨T, cs, hb, hs, hd⟩ := h
  intro i hi
  have hi' : i < l.length := by simpa [ByteArray.size] using hi
  rw [hb.cell]
  have e : (cs.toList.drop k)[i]? = (bytesV l)[i]? := by rw [hd]
  rw [List.getElem?_drop, Array.getElem?_toList] at e
  rw [e]
  simp only [bytesV, List.getElem?_map]
  rw [List.getElem?_eq_getElem hi']
  rfl
theorem spanT_pos (d : Int) : 1 ≤ (spanT d).length := by
  unfold spanT
  split
  · simp
  · split
    · simp
    · unfold spanU
      repeat' split
      all_goals (simp only [List.length_append]; have := decs_pos (d.toNat / 10 ^ 0); have := decs_pos (d.toNat / 10 ^ 3); have := decs_pos (d.toNat / 10 ^ 6); have := decs_pos (d.toNat / 10 ^ 9 % 60); have := decs_pos (d.toNat / 10 ^ 9 / 60 % 60); have := decs_pos (d.toNat / 10 ^ 9 / 60 / 60); omega)
theorem BufT.new (w : World) (T : TypeId) (cs : Array Value) (h : cs.size = 32) : BufT (w.alloc (.cells cs T)) w.heap.size 32 [] := by
  refine ⟨T, cs, Blk.new w T cs, h, ?_⟩
  rw [List.drop_eq_nil_of_le (by simp [h])]
  rfl

set_option maxRecDepth 100000 in
theorem string_any (d : Int) (w : World) (h0 : -9223372036854775808 ≤ d) (h1 : d ≤ 9223372036854775807) :
    Calls Tryd.prog 27 #[.int .i64 d] w fun e w' => e = .returned (.string ⟨(spanT d).toArray⟩) ∧ Below w.heap.size w w' := by
  obtain ⟨T, hT⟩ : ∃ T, T = spanT d := ⟨_, rfl⟩
  have hTp : 1 ≤ T.length := by rw [hT]; exact spanT_pos d
  have HT := Lib.hid hT
  rw [← hT]
  go_enter Tryd.func27, Tryd.ntmps27
  go_wp2_with (go_at_call 47; refine (format_any _ d _ h0 h1 (BufT.new w _ _ rfl)).mono ?_; rintro e w1 ⟨k, rfl, hk, hb, hg⟩
               rw [← HT.out] at hb
               have hlen := hb.length
               have hsl := slice32l w.heap.size k (by omega)
               have ht := Lib.run_convert_whole (P := Tryd.prog) w1 29 5 9 Tryd.underlying29 Tryd.underlying5 Tryd.underlying9 w.heap.size k ⟨T.toArray⟩ (hb.text hk) (32 - k)
               rw [show (ByteArray.mk T.toArray).size = 32 - k by simp [ByteArray.size, hlen]] at ht
               have HG := Lib.hid hg
               clear hg hb hlen hTp)
  go_ret
  exact ⟨by rw [HT.out]; rfl, ((Below.refl w.heap.size w).alloc (Nat.le_refl _) _).grown HG.out (by simp) (fun k e => by cases e; omega)⟩
theorem lspan (d : Int) (w : World) (h0 : -9223372036854775808 ≤ d) (h1 : d ≤ 9223372036854775807) :
    Calls Tryd.prog 10 #[.int .i64 d] w fun e w' => e = .returned (.string ⟨(spanT d).toArray⟩) ∧ Below w.heap.size w w' := by
  go_enter Tryd.func10, Tryd.ntmps10
  go_wp2_with (go_at_call 27; refine (string_any d _ h0 h1).mono ?_; rintro e w1 ⟨rfl, hb⟩)
  go_ret
  exact ⟨rfl, hb⟩
end Go.Proofs.YtdbnconphcaclaaDoor
