/-
  THE WALK OF 'FnIsJSONNameMatchesSplitModel' (3).
-/
import Derived.Test.Qxb6617881aCopy
namespace Go.Proofs.Qxb6617881a
open Go.RowKit

set_option maxHeartbeats 800000 in
theorem split_long (a0 : Option Addr) (n c : Nat) (s : ByteArray) (w : World) (h1 : n ≤ maxLen) (h2 : s.size ≤ maxLen) (h : 1048576 < n + s.size) :
    Calls Try.prog 3 #[.slice a0 n c, .string s] w fun e w' => e = .returned (.bool true) ∧ Below w.heap.size w w' := by
  unfold maxLen at h1 h2
  by_cases ha : 1048576 < n
  · go_enter Try.func3, Try.ntmps3
    go_wp2
    go_ret
    exact ⟨rfl, Below.refl _ _⟩
  · by_cases hb : 1048576 < s.size
    · go_enter Try.func3, Try.ntmps3
      go_wp2
      go_ret
      exact ⟨rfl, Below.refl _ _⟩
    · go_enter Try.func3, Try.ntmps3
      go_wp2
      go_ret
      exact ⟨rfl, Below.refl _ _⟩

set_option maxHeartbeats 1600000 in
theorem split_law (a0 : Option Addr) (n c : Nat) (f : Nat → Int) (K : List UInt8) (s : ByteArray) (w : World) (h : n + s.size ≤ 1048576) (ha : Came w a0 n c f) (hI : Is f n K) :
    Calls Try.prog 3 #[.slice a0 n c, .string s] w fun e w' => e = .returned (.bool true) ∧ Below w.heap.size w w' := by
  have hna := fun w => run_neq_slice_nil_any (P := Try.prog) w 22 5 a0 n c 0 0 Try.underlying22
  obtain ⟨i0, hi0, hz0, hz1, hz2⟩ := info_parts Try.info5
  have HI : Hid _ := hI
  clear hI
  go_enter Try.func3, Try.ntmps3
  go_upto_if 25 with (go_at_call 7; go_in)
  go_cut [0, 5] (fun s0 s5 wd => Copied w n f s0 wd)
  case first =>
    obtain ⟨B, hB⟩ : ∃ B, B = w.heap.size := ⟨_, rfl⟩
    have HB : Hid (B = w.heap.size) := hB
    clear hB
    rcases ha with ⟨rfl, rfl, rfl⟩ | ⟨x, rfl, hc⟩
    · go_wp2
      go_meet
      exact Copied.nil w f
    · have HC : Hid _ := hc
      clear hc
      go_wp2_with (at_make; refine wpList_make_full _ rfl _ _ 22 rfl B 5 i0 (.int .u8 0) 1 Try.underlying22 hi0 hz0 hz1 _ _ _ _ n rfl rfl rfl rfl ?pb2 ?pb3 ?pb4 ?_)
      case pb2 => rw [hz2]; omega
      case pb3 => unfold maxLen; omega
      case pb4 => rw [HB.out]; exact Nat.le_refl _
      intro w1 hown hgrow
      obtain ⟨X, hX⟩ : ∃ X, X = (madeCells #[Value.int IntKind.u8 0] n).toList := ⟨_, rfl⟩
      rw [← hX] at hown
      obtain ⟨hblk, hXl⟩ := made_block hown
      have HBLK : Hid _ := hblk
      have HXL : Hid _ := hXl
      clear hblk hXl hX hown
      go_wp2_with (refine wpList_copy_splice rfl (.tmp 29) (.tmp 30) 22 22 rfl 5 Try.underlying22 Try.size5 _ _ _ _ _ _ rfl rfl w.heap.size 0 X 5 HBLK.out (cellsOf f n) ?pn1 (fun _ => ⟨rfl, x, rfl, src_cells HC.out hgrow⟩) ?pn3 (cellsOf_one _ _) B w ?pn4 ?pn5 ?_)
      case pn1 => rw [cellsOf_len]; exact (Nat.min_self _).symm
      case pn3 => rw [cellsOf_len, HXL.out]; omega
      case pn4 => exact (Below.refl _ _).grown hgrow (by rw [HB.out]; exact Nat.le_refl _) (fun k hk => by cases hk)
      case pn5 => rw [HB.out]; exact Nat.le_refl _
      intro w2 HG hB2
      have HR : Hid _ := Copied.of HXL.out HG (by rw [HB.out] at hB2; exact hB2)
      clear HG HBLK HXL hgrow HC hB2
      go_wp2
      go_meet
      exact HR.out
  case rest =>
  obtain ⟨aa, ca, rfl, hRa, -, hB1⟩ := hcut
  have HRa : Hid (Reads wc aa n f) := hRa
  have HB1 : Hid (Below w.heap.size w wc) := hB1
  clear hRa hB1 ha hna
  go_wp2_with fail
  refine (camel_any s _ (by omega)).mono ?_
  rintro e W2 ⟨v, rfl, hO, hB2⟩
  have HR2 : Hid (Reads W2 aa n f) := Reads.later HRa.out hB2 (Nat.le_refl _)
  have HW2 : Hid (Below w.heap.size w W2) := HB1.out.trans (hB2.mono HB1.out.size)
  obtain ⟨M, hM⟩ : ∃ M, M = Pl.camel false s.data.toList := ⟨_, rfl⟩
  have hMl : M.length ≤ s.size := by rw [hM, ← len_data s]; exact Pl.camel_le false _
  rw [← hM] at hO
  obtain ⟨bo, cb, g, hv, hRb, hIb⟩ := hO.reads
  obtain ⟨m, hm⟩ : ∃ m, m = M.length := ⟨_, rfl⟩
  rw [← hm] at hv hRb hIb hMl
  have HM : Hid _ := hM
  have HRb : Hid (Reads W2 bo m g) := hRb
  have HIb : Hid (Is g m M) := hIb
  rw [hv]
  clear hv hRb hIb hm hM hO hB2 HRa HB1
  go_wp2_with fail
  refine (zzJson_any aa n ca f K s _ (by omega) HR2.out HI.out (by omega)).mono ?_
  rintro e w' ⟨rfl, rfl⟩
  rw [← HM.out]
  go_wp2_with fail
  refine (bytesEq_any aa n ca f K bo m cb g M _ (by omega) (by omega) HR2.out HI.out HRb.out HIb.out).mono ?_
  rintro e W3 ⟨rfl, hB3⟩
  have HW3 : Hid (Below w.heap.size w W3) := HW2.out.trans (hB3.mono HW2.out.size)
  go_wp2
  go_ret
  exact ⟨ret_bool (by simp), HW3.out⟩

end Go.Proofs.Qxb6617881a
