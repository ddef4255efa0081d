/-
  THE WALK OF 'FnLowerSplitsAtAnyCut' (4).
-/
import Derived.Test.Qxb6617954aLowerWalk
namespace Go.Proofs.Qxb6617954a
open Go.RowKit

set_option maxRecDepth 100000 in
set_option maxHeartbeats 400000 in
theorem cut_long (a0 : Option Addr) (n c : Nat) (k : Int) (w : World) (h1 : n ≤ maxLen) (h : 1048576 < n) :
    Calls Try.prog 4 #[.slice a0 n c, .int .i64 k] w fun e w' => e = .returned (.bool true) ∧ Below w.heap.size w w' := by
  unfold maxLen at h1
  go_enter Try.func4, Try.ntmps4
  go_wp2
  go_ret
  exact ⟨rfl, Below.refl _ _⟩

set_option maxRecDepth 100000 in
set_option maxHeartbeats 400000 in
theorem cut_out (a0 : Option Addr) (n c : Nat) (k : Int) (w : World) (h1 : n ≤ 1048576) (ho : k < 0 ∨ (n : Int) < k) :
    Calls Try.prog 4 #[.slice a0 n c, .int .i64 k] w fun e w' => e = .returned (.bool true) ∧ Below w.heap.size w w' := by
  by_cases h0 : k < 0
  · go_enter Try.func4, Try.ntmps4
    go_wp2
    go_ret
    exact ⟨rfl, Below.refl _ _⟩
  · have h2 : (n : Int) < k := by omega
    clear ho
    go_enter Try.func4, Try.ntmps4
    go_wp2
    go_ret
    exact ⟨rfl, Below.refl _ _⟩

/-- A text, and what has become of the world. -/
def StrRel (W1 : World) (l : List UInt8) (s : Value) (wx : World) : Prop := ∃ t : ByteArray, s = .string t ∧ t.data.toList = l ∧ Below W1.heap.size W1 wx

theorem bytes_below (w : World) (t : ByteArray) : Below w.heap.size w (Lib.bytesWorld w 5 t) :=
  ⟨rfl, rfl, rfl, by rw [Lib.bytesWorld_size]; omega, fun k hk => Lib.bytesWorld_at_old w 5 t k hk⟩
theorem bytes_reads (w : World) (t : ByteArray) : Reads (Lib.bytesWorld w 5 t) (some ⟨w.heap.size, 0, none⟩) t.size (fun j => ((t.data.toList.getD j 0).toNat : Int)) :=
  .inr ⟨w.heap.size, 0, rfl, by rw [Lib.bytesWorld_size]; omega, fun j hj => by rw [Nat.zero_add]; exact Lib.bytesWorld_cell w 5 t j hj⟩
theorem is_take {f : Nat → Int} {n k : Nat} {K : List UInt8} (h : Is f n K) (hk : k ≤ n) : Is f k (K.take k) := by
  refine ⟨by have := h.1; simp; omega, fun j hj => ?_⟩
  rw [h.2 j (by omega)]
  simp [List.getD, List.getElem?_take_of_lt hj]
theorem is_drop {f : Nat → Int} {n k : Nat} {K : List UInt8} (h : Is f n K) (hk : k ≤ n) : Is (fun j => f (k + j)) (n - k) (K.drop k) := by
  refine ⟨by have := h.1; simp; omega, fun j hj => ?_⟩
  show f (k + j) = _
  rw [h.2 (k + j) (by omega)]
  simp [List.getD, List.getElem?_drop]

set_option maxRecDepth 100000 in
set_option maxHeartbeats 1600000 in
theorem cut_law (a0 : Option Addr) (n c k : Nat) (f : Nat → Int) (K : List UInt8) (w : World) (hn : n ≤ 1048576) (hk : k ≤ n) (ha : Came w a0 n c f) (hI : Is f n K) :
    Calls Try.prog 4 #[.slice a0 n c, .int .i64 k] w fun e w' => e = .returned (.bool true) ∧ Below w.heap.size w w' := by
  have hna := fun w => run_neq_slice_nil_any (P := Try.prog) w 22 5 a0 n c 0 0 Try.underlying22
  obtain ⟨i0, hi0, hz0, hz1, hz2⟩ := info_parts Try.info5
  have HI : Hid (Is f n K) := hI
  clear hI
  go_enter Try.func4, Try.ntmps4
  go_upto_if 27 with (go_at_call 9; go_in)
  go_cut [0, 5] (fun s0 s5 wd => Copied w n f s0 wd)
  case first =>
    obtain ⟨B, hB⟩ : ∃ B, B = w.heap.size := ⟨_, rfl⟩
    have HB : Hid (B = w.heap.size) := hB
    clear hB
    rcases ha with ⟨rfl, rfl, rfl⟩ | ⟨x, rfl, hc⟩
    · go_wp2
      go_meet
      exact Copied.nil w f
    · have HC : Hid _ := hc
      clear hc
      go_wp2_with (at_make; refine wpList_make_full _ rfl _ _ 22 rfl B 5 i0 (.int .u8 0) 1 Try.underlying22 hi0 hz0 hz1 _ _ _ _ n rfl rfl rfl rfl ?pb2 ?pb3 ?pb4 ?_)
      case pb2 => rw [hz2]; omega
      case pb3 => unfold maxLen; omega
      case pb4 => rw [HB.out]; exact Nat.le_refl _
      intro w1 hown hgrow
      obtain ⟨X, hX⟩ : ∃ X, X = (madeCells #[Value.int IntKind.u8 0] n).toList := ⟨_, rfl⟩
      rw [← hX] at hown
      obtain ⟨hblk, hXl⟩ := made_block hown
      have HBLK : Hid _ := hblk
      have HXL : Hid _ := hXl
      clear hblk hXl hX hown
      go_wp2_with (refine wpList_copy_splice rfl (.tmp 31) (.tmp 32) 22 22 rfl 5 Try.underlying22 Try.size5 _ _ _ _ _ _ rfl rfl w.heap.size 0 X 5 HBLK.out (cellsOf f n) ?pn1 (fun _ => ⟨rfl, x, rfl, src_cells HC.out hgrow⟩) ?pn3 (cellsOf_one _ _) B w ?pn4 ?pn5 ?_)
      case pn1 => rw [cellsOf_len]; exact (Nat.min_self _).symm
      case pn3 => rw [cellsOf_len, HXL.out]; omega
      case pn4 => exact (Below.refl _ _).grown hgrow (by rw [HB.out]; exact Nat.le_refl _) (fun k hk => by cases hk)
      case pn5 => rw [HB.out]; exact Nat.le_refl _
      intro w2 HG hB2
      have HR : Hid _ := Copied.of HXL.out HG (by rw [HB.out] at hB2; exact hB2)
      clear HG HBLK HXL hgrow HC hB2
      go_wp2
      go_meet
      exact HR.out
  case rest =>
  obtain ⟨W1, hW1⟩ : ∃ W1, W1 = wc := ⟨_, rfl⟩
  subst hW1
  obtain ⟨hB1, hcase⟩ := hcut
  have HB1 : Hid (Below w.heap.size w W1) := hB1
  have HCase : Hid ((n = 0 ∧ u0 = .slice none 0 0) ∨ ∃ g, u0 = .slice (some ⟨g, 0, none⟩) n n ∧ g < W1.heap.size ∧ ∀ j, j < n → W1.cell? ⟨g, j, none⟩ = some (.int .u8 (f j))) := hcase
  clear hB1 ha hna hcase
  go_upto_region 11 with fail
  go_cut [6] (fun s6 wx => StrRel W1 (Pl.lows K) s6 wx)
  case first =>
    rcases HCase.out with ⟨hn0, rfl⟩ | ⟨g, rfl, hg, hc⟩
    · go_wp2_with fail
      refine (zzLower_any none 0 0 f K _ (by omega) (.inl rfl) (hn0 ▸ HI.out)).mono ?_
      rintro e W2 ⟨t0, rfl, ht0, hB2⟩
      have HX : Hid (StrRel W1 (Pl.lows K) (.string t0) W2) := ⟨t0, rfl, ht0, hB2⟩
      clear ht0 hB2
      go_wp2
      go_meet
      exact HX.out
    · have HR1 : Hid (Reads W1 (some ⟨g, 0, none⟩) n f) := .inr ⟨g, 0, rfl, hg, fun j hj => by rw [Nat.zero_add]; exact hc j hj⟩
      clear hc
      go_wp2_with fail
      refine (zzLower_any (some ⟨g, 0, none⟩) n n f K _ hn HR1.out HI.out).mono ?_
      rintro e W2 ⟨t0, rfl, ht0, hB2⟩
      have HX : Hid (StrRel W1 (Pl.lows K) (.string t0) W2) := ⟨t0, rfl, ht0, hB2⟩
      clear ht0 hB2
      go_wp2
      go_meet
      exact HX.out
  case rest =>
  obtain ⟨W2, hW2⟩ : ∃ W2, W2 = wc := ⟨_, rfl⟩
  subst hW2
  obtain ⟨t0, rfl, ht0, hB2⟩ := hcut
  have HT0 : Hid (t0.data.toList = Pl.lows K) := ht0
  have HB2 : Hid (Below W1.heap.size W1 W2) := hB2
  clear ht0 hB2
  go_upto_region 12 with fail
  go_cut [7] (fun s7 wx => StrRel W1 (Pl.lows (K.take k)) s7 wx)
  case first =>
    rcases HCase.out with ⟨hn0, rfl⟩ | ⟨g, rfl, hg, hc⟩
    · obtain rfl : k = 0 := by omega
      go_wp2_with fail
      refine (zzLower_any none 0 0 f (K.take 0) _ (by omega) (.inl rfl) (is_take HI.out (Nat.zero_le _))).mono ?_
      rintro e W3 ⟨t1, rfl, ht1, hB3⟩
      have HX : Hid (StrRel W1 (Pl.lows (K.take 0)) (.string t1) W3) := ⟨t1, rfl, ht1, HB2.out.trans (hB3.mono HB2.out.size)⟩
      clear ht1 hB3
      go_wp2
      go_meet
      exact HX.out
    · have HR1 : Hid (Reads W1 (some ⟨g, 0, none⟩) k f) := .inr ⟨g, 0, rfl, hg, fun j hj => by rw [Nat.zero_add]; exact hc j (by omega)⟩
      have HR2 : Hid (Reads W2 (some ⟨g, 0, none⟩) k f) := Reads.later HR1.out HB2.out (Nat.le_refl _)
      clear hc
      go_wp2_with fail
      refine (zzLower_any (some ⟨g, 0, none⟩) k n f (K.take k) _ (by omega) HR2.out (is_take HI.out hk)).mono ?_
      rintro e W3 ⟨t1, rfl, ht1, hB3⟩
      have HX : Hid (StrRel W1 (Pl.lows (K.take k)) (.string t1) W3) := ⟨t1, rfl, ht1, HB2.out.trans (hB3.mono HB2.out.size)⟩
      clear ht1 hB3
      go_wp2
      go_meet
      exact HX.out
  case rest =>
  obtain ⟨W3, hW3⟩ : ∃ W3, W3 = wc := ⟨_, rfl⟩
  subst hW3
  obtain ⟨t1, rfl, ht1, hB3⟩ := hcut
  have HT1 : Hid (t1.data.toList = Pl.lows (K.take k)) := ht1
  have HB3 : Hid (Below W1.heap.size W1 W3) := hB3
  clear ht1 hB3
  go_upto_region 13 with fail
  go_cut [8] (fun s8 wx => StrRel W1 (Pl.lows (K.drop k)) s8 wx)
  case first =>
    rcases HCase.out with ⟨hn0, rfl⟩ | ⟨g, rfl, hg, hc⟩
    · obtain rfl : k = 0 := by omega
      go_wp2_with fail
      refine (zzLower_any none 0 0 f (K.drop 0) _ (by omega) (.inl rfl) (by rw [List.drop_zero, ← hn0]; exact HI.out)).mono ?_
      rintro e W4 ⟨t2, rfl, ht2, hB4⟩
      have HX : Hid (StrRel W1 (Pl.lows (K.drop 0)) (.string t2) W4) := ⟨t2, rfl, ht2, HB3.out.trans (hB4.mono HB3.out.size)⟩
      clear ht2 hB4
      go_wp2
      go_meet
      exact HX.out
    · by_cases hkn : k = n
      · have HJ : Hid (Is (fun j => f (k + j)) 0 (K.drop k)) := by
          have := is_drop HI.out hk
          rwa [show n - k = 0 by omega] at this
        have hnk : n ≤ k := by omega
        clear hkn hc
        go_wp2_with fail
        refine (zzLower_any _ _ _ (fun j => f (k + j)) (K.drop k) _ (by omega) (.inl (by omega)) HJ.out).mono ?_
        rintro e W4 ⟨t2, rfl, ht2, hB4⟩
        have HX : Hid (StrRel W1 (Pl.lows (K.drop k)) (.string t2) W4) := ⟨t2, rfl, ht2, HB3.out.trans (hB4.mono HB3.out.size)⟩
        clear ht2 hB4
        go_wp2
        go_meet
        exact HX.out
      · have HR1 : Hid (Reads W1 (some ⟨g, k, none⟩) (n - k) (fun j => f (k + j))) := .inr ⟨g, k, rfl, hg, fun j hj => hc (k + j) (by omega)⟩
        have HR3 : Hid (Reads W3 (some ⟨g, k, none⟩) (n - k) (fun j => f (k + j))) := Reads.later HR1.out HB3.out (Nat.le_refl _)
        clear hc
        go_wp2_with fail
        refine (zzLower_any (some ⟨g, k, none⟩) (n - k) (n - k) (fun j => f (k + j)) (K.drop k) _ (by omega) HR3.out (is_drop HI.out hk)).mono ?_
        rintro e W4 ⟨t2, rfl, ht2, hB4⟩
        have HX : Hid (StrRel W1 (Pl.lows (K.drop k)) (.string t2) W4) := ⟨t2, rfl, ht2, HB3.out.trans (hB4.mono HB3.out.size)⟩
        clear ht2 hB4
        go_wp2
        go_meet
        exact HX.out
  case rest =>
  obtain ⟨W4, hW4⟩ : ∃ W4, W4 = wc := ⟨_, rfl⟩
  subst hW4
  obtain ⟨t2, rfl, ht2, hB4⟩ := hcut
  have HT2 : Hid (t2.data.toList = Pl.lows (K.drop k)) := ht2
  have HB4 : Hid (Below W1.heap.size W1 W4) := hB4
  have HSz : Hid (t0.size = n) := by
    show _ = _
    rw [← len_data, HT0.out, Pl.lows_len, HI.out.1]
  have hs1 : t1.size ≤ 1048576 := by
    rw [← len_data, HT1.out, Pl.lows_len]
    have := HI.out.1
    simp
    omega
  have hs2 : t2.size ≤ 1048576 := by
    rw [← len_data, HT2.out, Pl.lows_len]
    have := HI.out.1
    simp
    omega
  have hcat : (t0.toList == (t1 ++ t2).toList) = true := by
    rw [beq_iff_eq, ByteArray.toList_eq, ByteArray.toList_eq, ByteArray.data_append, Array.toList_append, HT0.out, HT1.out, HT2.out]
    exact Pl.lows_cut K k
  obtain ⟨ao, cc, hu⟩ : ∃ ao cc, u0 = .slice ao n cc := by
    rcases HCase.out with ⟨h1, h2⟩ | ⟨g, h2, _⟩
    · exact ⟨none, 0, by rw [h1]; exact h2⟩
    · exact ⟨_, _, h2⟩
  clear ht2 hB4 HB2 HB3 HCase
  subst hu
  have hszb : ((t0.size : Int) == (n : Int)) = true := by rw [beq_iff_eq, HSz.out]
  have ht0n : t0.size ≤ 1048576 := by rw [HSz.out]; exact hn
  have hcv := fun wx => Lib.run_convert_string_bytes (P := Try.prog) wx 9 22 5 t0 Try.underlying9 Try.underlying22 Try.underlying5
  have HUp : Hid (∀ j (hj : j < t0.size), ¬ (65 ≤ (t0[j].toNat : Int) ∧ (t0[j].toNat : Int) ≤ 90)) := by
    intro j hj
    have e : t0[j] = Pl.lo (K.getD j 0) := by
      rw [← byte_getD t0 j hj, HT0.out]
      exact Pl.lows_getD K j (by rw [← HI.out.1, ← HSz.out]; exact hj)
    rw [e]
    exact Pl.lo_not_up _
  go_wp2
  go_loop [9] (fun si => ∃ q : Nat, q ≤ t0.size ∧ si = .int .i64 q) (fun si => t0.size - (intOf si).toNat)
  case atStart => exact ⟨0, Nat.zero_le _, rfl⟩
  case round =>
    obtain ⟨q, hq, rfl⟩ := hrel
    by_cases hlt : q < t0.size
    · have hup := HUp.out q hlt
      by_cases h65 : 65 ≤ (t0[q].toNat : Int)
      · have h90 : 90 < (t0[q].toNat : Int) := by omega
        clear hup
        go_wp2
        go_round
        case rel => exact ⟨q + 1, by omega, by go_num⟩
        case measure => simp [intOf]; omega
      · have h65' : (t0[q].toNat : Int) < 65 := by omega
        clear hup h65
        go_wp2
        go_round
        case rel => exact ⟨q + 1, by omega, by go_num⟩
        case measure => simp [intOf]; omega
    · have HBW : Hid (Below W4.heap.size W4 (Lib.bytesWorld W4 5 t0)) := bytes_below W4 t0
      have HRW : Hid (Reads (Lib.bytesWorld W4 5 t0) (some ⟨W4.heap.size, 0, none⟩) t0.size (fun j => ((t0.data.toList.getD j 0).toNat : Int))) := bytes_reads W4 t0
      have HIW : Hid (Is (fun j => ((t0.data.toList.getD j 0).toNat : Int)) t0.size (Pl.lows K)) := by
        rw [← HT0.out]
        exact ⟨(len_data t0).symm, fun _ _ => rfl⟩
      go_wp2_with fail
      refine (zzLower_any (some ⟨W4.heap.size, 0, none⟩) t0.size _ (fun j => ((t0.data.toList.getD j 0).toNat : Int)) (Pl.lows K) _ ht0n HRW.out HIW.out).mono ?_
      rintro e W5 ⟨t3, rfl, ht3, hB5⟩
      have heq : (t3.toList == t0.toList) = true := by
        rw [beq_iff_eq, ByteArray.toList_eq, ByteArray.toList_eq, HT0.out, ht3, Pl.lows_lows]
      have HF : Hid (Below w.heap.size w W5) := by
        have h1 : Below W4.heap.size W4 W5 := HBW.out.trans (hB5.mono HBW.out.size)
        have h2 : Below W1.heap.size W1 W5 := HB4.out.trans (h1.mono HB4.out.size)
        exact HB1.out.trans (h2.mono HB1.out.size)
      clear ht3 hB5
      go_wp2
      go_ret
      exact ⟨rfl, HF.out⟩

end Go.Proofs.Qxb6617954a
