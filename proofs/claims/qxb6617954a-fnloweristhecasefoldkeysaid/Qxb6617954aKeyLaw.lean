/-
  THE WALK OF 'FnLowerIsTheCaseFoldKey' (3).
-/
import Derived.Test.Qxb6617954aFoldWalk
namespace Go.Proofs.Qxb6617954a
open Go.RowKit

theorem Copied.read {w wc : World} {n : Nat} {f : Nat → Int} {s : Value} (h : Copied w n f s wc) : Below w.heap.size w wc ∧ ∃ ao c, s = .slice ao n c ∧ Reads wc ao n f := by
  obtain ⟨hb, ⟨h1, h2⟩ | ⟨g, h2, hg, hc⟩⟩ := h
  · exact ⟨hb, none, 0, by rw [h1]; exact h2, .inl h1⟩
  · exact ⟨hb, some ⟨g, 0, none⟩, n, h2, .inr ⟨g, 0, rfl, hg, fun j hj => by rw [Nat.zero_add]; exact hc j hj⟩⟩

set_option maxRecDepth 100000 in
set_option maxHeartbeats 400000 in
theorem key_long (a0 a1 : Option Addr) (la ca lb cb : Nat) (w : World) (h1 : la ≤ maxLen) (h2 : lb ≤ maxLen) (h : 524288 < la ∨ 524288 < lb) :
    Calls Try.prog 3 #[.slice a0 la ca, .slice a1 lb cb] w fun e w' => e = .returned (.bool true) ∧ Below w.heap.size w w' := by
  unfold maxLen at h1 h2
  by_cases ha : 524288 < la
  · by_cases hb : 1048576 < la
    · go_enter Try.func3, Try.ntmps3
      go_wp2
      go_ret
      exact ⟨rfl, Below.refl _ _⟩
    · by_cases hc : 1048576 < lb
      · go_enter Try.func3, Try.ntmps3
        go_wp2
        go_ret
        exact ⟨rfl, Below.refl _ _⟩
      · by_cases hd : 1048576 < la + lb
        · go_enter Try.func3, Try.ntmps3
          go_wp2
          go_ret
          exact ⟨rfl, Below.refl _ _⟩
        · go_enter Try.func3, Try.ntmps3
          go_wp2
          go_ret
          exact ⟨rfl, Below.refl _ _⟩
  · by_cases hc : 1048576 < lb
    · go_enter Try.func3, Try.ntmps3
      go_wp2
      go_ret
      exact ⟨rfl, Below.refl _ _⟩
    · by_cases hd : 1048576 < la + lb
      · go_enter Try.func3, Try.ntmps3
        go_wp2
        go_ret
        exact ⟨rfl, Below.refl _ _⟩
      · have hb : 524288 < lb := by omega
        go_enter Try.func3, Try.ntmps3
        go_wp2
        go_ret
        exact ⟨rfl, Below.refl _ _⟩

set_option maxRecDepth 100000 in
set_option maxHeartbeats 1600000 in
theorem key_law (a0 a1 : Option Addr) (n c m cb : Nat) (f g : Nat → Int) (K M : List UInt8) (w : World) (hn : n ≤ 524288) (hm : m ≤ 524288) (ha : Came w a0 n c f) (hI : Is f n K) (hb : Came w a1 m cb g) (hJ : Is g m M) :
    Calls Try.prog 3 #[.slice a0 n c, .slice a1 m cb] w fun e w' => e = .returned (.bool true) ∧ Below w.heap.size w w' := by
  have hna := fun w => run_neq_slice_nil_any (P := Try.prog) w 22 5 a0 n c 0 0 Try.underlying22
  have hnb := fun w => run_neq_slice_nil_any (P := Try.prog) w 22 5 a1 m cb 0 0 Try.underlying22
  obtain ⟨i0, hi0, hz0, hz1, hz2⟩ := info_parts Try.info5
  have HI : Hid (Is f n K) := hI
  have HJ : Hid (Is g m M) := hJ
  clear hI hJ
  go_enter Try.func3, Try.ntmps3
  go_upto_if 20 with (go_at_call 5; go_in)
  go_cut [0, 5] (fun s0 s5 wd => Copied w n f s0 wd)
  case first =>
    obtain ⟨B, hB⟩ : ∃ B, B = w.heap.size := ⟨_, rfl⟩
    have HB : Hid (B = w.heap.size) := hB
    clear hB
    rcases ha with ⟨rfl, rfl, rfl⟩ | ⟨x, rfl, hc⟩
    · go_wp2
      go_meet
      exact Copied.nil w f
    · have HC : Hid _ := hc
      clear hc
      go_wp2_with (at_make; refine wpList_make_full _ rfl _ _ 22 rfl B 5 i0 (.int .u8 0) 1 Try.underlying22 hi0 hz0 hz1 _ _ _ _ n rfl rfl rfl rfl ?pb2 ?pb3 ?pb4 ?_)
      case pb2 => rw [hz2]; omega
      case pb3 => unfold maxLen; omega
      case pb4 => rw [HB.out]; exact Nat.le_refl _
      intro w1 hown hgrow
      obtain ⟨X, hX⟩ : ∃ X, X = (madeCells #[Value.int IntKind.u8 0] n).toList := ⟨_, rfl⟩
      rw [← hX] at hown
      obtain ⟨hblk, hXl⟩ := made_block hown
      have HBLK : Hid _ := hblk
      have HXL : Hid _ := hXl
      clear hblk hXl hX hown
      go_wp2_with (refine wpList_copy_splice rfl (.tmp 24) (.tmp 25) 22 22 rfl 5 Try.underlying22 Try.size5 _ _ _ _ _ _ rfl rfl w.heap.size 0 X 5 HBLK.out (cellsOf f n) ?pn1 (fun _ => ⟨rfl, x, rfl, src_cells HC.out hgrow⟩) ?pn3 (cellsOf_one _ _) B w ?pn4 ?pn5 ?_)
      case pn1 => rw [cellsOf_len]; exact (Nat.min_self _).symm
      case pn3 => rw [cellsOf_len, HXL.out]; omega
      case pn4 => exact (Below.refl _ _).grown hgrow (by rw [HB.out]; exact Nat.le_refl _) (fun k hk => by cases hk)
      case pn5 => rw [HB.out]; exact Nat.le_refl _
      intro w2 HG hB2
      have HR : Hid _ := Copied.of HXL.out HG (by rw [HB.out] at hB2; exact hB2)
      clear HG HBLK HXL hgrow HC hB2
      go_wp2
      go_meet
      exact HR.out
  case rest =>
  obtain ⟨W1, hW1⟩ : ∃ W1, W1 = wc := ⟨_, rfl⟩
  subst hW1
  obtain ⟨hB1, ao, ca2, rfl, hRa⟩ := hcut.read
  have hb1 := hb.later hB1
  have HRa : Hid (Reads W1 ao n f) := hRa
  have HB1 : Hid (Below w.heap.size w W1) := hB1
  clear hcut hRa hB1 ha hb hna
  go_upto_if 29 with fail
  go_cut [1, 6] (fun s0 s5 wd => Copied W1 m g s0 wd)
  case first =>
    obtain ⟨B, hB⟩ : ∃ B, B = W1.heap.size := ⟨_, rfl⟩
    have HB : Hid (B = W1.heap.size) := hB
    clear hB
    rcases hb1 with ⟨rfl, rfl, rfl⟩ | ⟨x, rfl, hc⟩
    · go_wp2
      go_meet
      exact Copied.nil W1 g
    · have HC : Hid _ := hc
      clear hc
      go_wp2_with (at_make; refine wpList_make_full _ rfl _ _ 22 rfl B 5 i0 (.int .u8 0) 1 Try.underlying22 hi0 hz0 hz1 _ _ _ _ m rfl rfl rfl rfl ?qb2 ?qb3 ?qb4 ?_)
      case qb2 => rw [hz2]; omega
      case qb3 => unfold maxLen; omega
      case qb4 => rw [HB.out]; exact Nat.le_refl _
      intro w1 hown hgrow
      obtain ⟨X, hX⟩ : ∃ X, X = (madeCells #[Value.int IntKind.u8 0] m).toList := ⟨_, rfl⟩
      rw [← hX] at hown
      obtain ⟨hblk, hXl⟩ := made_block hown
      have HBLK : Hid _ := hblk
      have HXL : Hid _ := hXl
      clear hblk hXl hX hown
      go_wp2_with (refine wpList_copy_splice rfl (.tmp 33) (.tmp 34) 22 22 rfl 5 Try.underlying22 Try.size5 _ _ _ _ _ _ rfl rfl W1.heap.size 0 X 5 HBLK.out (cellsOf g m) ?qn1 (fun _ => ⟨rfl, x, rfl, src_cells HC.out hgrow⟩) ?qn3 (cellsOf_one _ _) B W1 ?qn4 ?qn5 ?_)
      case qn1 => rw [cellsOf_len]; exact (Nat.min_self _).symm
      case qn3 => rw [cellsOf_len, HXL.out]; omega
      case qn4 => exact (Below.refl _ _).grown hgrow (by rw [HB.out]; exact Nat.le_refl _) (fun k hk => by cases hk)
      case qn5 => rw [HB.out]; exact Nat.le_refl _
      intro w2 HG hB2
      have HR : Hid _ := Copied.of HXL.out HG (by rw [HB.out] at hB2; exact hB2)
      clear HG HBLK HXL hgrow HC hB2
      go_wp2
      go_meet
      exact HR.out
  case rest =>
  obtain ⟨W2, hW2⟩ : ∃ W2, W2 = wc := ⟨_, rfl⟩
  subst hW2
  obtain ⟨hB2, bo, cb2, rfl, hRb⟩ := hcut.read
  have HRb2 : Hid (Reads W2 bo m g) := hRb
  have HRa2 : Hid (Reads W2 ao n f) := Reads.later HRa.out hB2 (Nat.le_refl _)
  have HB2 : Hid (Below w.heap.size w W2) := HB1.out.trans (hB2.mono HB1.out.size)
  clear hcut hB2 hRb HRa HB1 hb1 hnb
  go_wp2_with fail
  refine (zzLower_any ao n ca2 f K _ (by omega) HRa2.out HI.out).mono ?_
  rintro e W3 ⟨t0, rfl, ht0, hB3⟩
  have HT0 : Hid (t0.data.toList = Pl.lows K) := ht0
  have HRb3 : Hid (Reads W3 bo m g) := Reads.later HRb2.out hB3 (Nat.le_refl _)
  have HRa3 : Hid (Reads W3 ao n f) := Reads.later HRa2.out hB3 (Nat.le_refl _)
  have HB3 : Hid (Below w.heap.size w W3) := HB2.out.trans (hB3.mono HB2.out.size)
  clear ht0 hB3 HRb2 HRa2 HB2
  go_wp2_with fail
  refine (zzLower_any bo m cb2 g M _ (by omega) HRb3.out HJ.out).mono ?_
  rintro e W4 ⟨t1, rfl, ht1, hB4⟩
  have HT1 : Hid (t1.data.toList = Pl.lows M) := ht1
  have HRb4 : Hid (Reads W4 bo m g) := Reads.later HRb3.out hB4 (Nat.le_refl _)
  have HRa4 : Hid (Reads W4 ao n f) := Reads.later HRa3.out hB4 (Nat.le_refl _)
  have HB4 : Hid (Below w.heap.size w W4) := HB3.out.trans (hB4.mono HB3.out.size)
  clear ht1 hB4 HRb3 HRa3 HB3
  go_wp2_with fail
  refine (rep_any t0 ao n ca2 f K _ (by omega) HRa4.out HI.out HT0.out).mono ?_
  rintro e W5 ⟨rfl, hB5⟩
  have HRb5 : Hid (Reads W5 bo m g) := Reads.later HRb4.out hB5 (Nat.le_refl _)
  have HRa5 : Hid (Reads W5 ao n f) := Reads.later HRa4.out hB5 (Nat.le_refl _)
  have HB5 : Hid (Below w.heap.size w W5) := HB4.out.trans (hB5.mono HB4.out.size)
  clear hB5 HRb4 HRa4 HB4
  go_wp2_with fail
  refine (rep_any t1 bo m cb2 g M _ (by omega) HRb5.out HJ.out HT1.out).mono ?_
  rintro e W6 ⟨rfl, hB6⟩
  have HRb6 : Hid (Reads W6 bo m g) := Reads.later HRb5.out hB6 (Nat.le_refl _)
  have HRa6 : Hid (Reads W6 ao n f) := Reads.later HRa5.out hB6 (Nat.le_refl _)
  have HB6 : Hid (Below w.heap.size w W6) := HB5.out.trans (hB6.mono HB5.out.size)
  clear hB6 HRb5 HRa5 HB5
  obtain ⟨ans, hans⟩ : ∃ b, b = decide (Pl.lows K = Pl.lows M) := ⟨_, rfl⟩
  have hcmp : (t0.toList == t1.toList) = ans := by
    rw [hans, ByteArray.toList_eq, ByteArray.toList_eq, HT0.out, HT1.out, Bool.eq_iff_iff]
    simp
  have HAns : Hid _ := hans
  clear hans
  go_wp2_with fail
  refine (fold_any ao n ca2 f K bo m cb2 g M _ (by omega) (by omega) HRa6.out HI.out HRb6.out HJ.out).mono ?_
  rintro e W7 ⟨rfl, hB7⟩
  have HB7 : Hid (Below w.heap.size w W7) := HB6.out.trans (hB7.mono HB6.out.size)
  rw [← HAns.out]
  clear hB7
  go_wp2
  go_ret
  exact ⟨ret_bool (by simp), HB7.out⟩

end Go.Proofs.Qxb6617954a
