/-
  THE WALK OF 'FnLineEndsCutsDataIntoLines' (3).
-/
import Derived.Test.Qxb6617875aCopy
namespace Go.Proofs.Qxb6617875a
open Go.RowKit

set_option maxHeartbeats 400000 in
theorem cuts_long (a0 : Option Addr) (len0 cap0 : Nat) (w : World) (hl : len0 ≤ maxLen) (h : 1048576 < len0) :
    Calls Try.prog 3 #[.slice a0 len0 cap0] w fun e w' => e = .returned (.bool true) ∧ Below w.heap.size w w' := by
  unfold maxLen at hl
  go_enter Try.func3, Try.ntmps3
  go_wp2
  go_ret
  exact ⟨rfl, Below.refl _ _⟩

theorem ends_empty {f : Nat → Int} {m : Nat} {e : Nat → Int} (h : Pl.EndsIs f 0 m e) : m = 1 ∧ e 0 = 0 := by
  have h1 : m = 1 := by rw [h.1]; rfl
  refine ⟨h1, ?_⟩
  have := h.last
  rw [h1] at this
  simpa using this

set_option maxHeartbeats 400000 in
theorem cuts_nil (w : World) :
    Calls Try.prog 3 #[.slice none 0 0] w fun e w' => e = .returned (.bool true) ∧ Below w.heap.size w w' := by
  have hne := fun w => run_neq_slice_nil_any (P := Try.prog) w 22 5 none 0 0 0 0 Try.underlying22
  go_enter Try.func3, Try.ntmps3
  go_wp2_with (go_at_call 7; go_in)
  refine (zzEnds_any none 0 0 (fun _ => 0) _ (by omega) (.inl rfl)).mono ?_
  rintro e w1 ⟨g, m, c, ev, rfl, h1, h2, h3, h4, h5⟩
  obtain ⟨rfl, h6⟩ := ends_empty h5
  have hc := h3 0 (by omega)
  rw [h6] at hc
  clear h3 h6 h5
  go_wp2
  go_ret
  exact ⟨rfl, h4⟩

theorem cuts_fact {f : Nat → Int} {n m : Nat} {e : Nat → Int} (h : Pl.EndsIs f n m e) (hn : 0 < n) :
    Hid (∀ (k s : Nat), k < m → ((k = 0 ∧ s = 0) ∨ (0 < k ∧ (s : Int) = e (k - 1))) → ∃ t : Nat, e k = t ∧ s < t ∧ t ≤ n ∧ ∃ j, Pl.Seg f n s t (decide (k = m - 1)) j) :=
  fun _ _ hk hs => Pl.cuts h hn hk hs

set_option maxHeartbeats 800000 in
theorem cuts_some (x : Addr) (len0 cap0 : Nat) (f : Nat → Int) (w : World) (hl : len0 ≤ 1048576) (hc : ∀ i, i < len0 → w.cell? (x.add i) = some (.int .u8 (f i))) :
    Calls Try.prog 3 #[.slice (some x) len0 cap0] w fun e w' => e = .returned (.bool true) ∧ Below w.heap.size w w' := by
  have hne := fun w => run_neq_slice_nil_any (P := Try.prog) w 22 5 (some x) len0 cap0 0 0 Try.underlying22
  obtain ⟨i0, hi, hz0, hz1, hz2⟩ := info_parts Try.info5
  obtain ⟨B, hB⟩ : ∃ B, B = w.heap.size := ⟨_, rfl⟩
  have HB : Hid (B = w.heap.size) := hB
  have HC : Hid _ := hc
  rw [← hB]
  clear hB hc
  go_enter Try.func3, Try.ntmps3
  go_wp2_with (first | (go_at_call 7; go_in) | (at_make; refine wpList_make_full _ rfl _ _ 22 rfl B 5 i0 (.int .u8 0) 1 Try.underlying22 hi hz0 hz1 _ _ _ _ len0 rfl rfl rfl rfl ?b2 ?b3 ?b4 ?_))
  case b2 => rw [hz2]; omega
  case b3 => unfold maxLen; omega
  case b4 => rw [HB.out]; exact Nat.le_refl _
  intro w1 hown hgrow
  obtain ⟨X, hX⟩ : ∃ X, X = (madeCells #[Value.int IntKind.u8 0] len0).toList := ⟨_, rfl⟩
  rw [← hX] at hown
  obtain ⟨hblk, hXl⟩ := made_block hown
  have HBLK : Hid _ := hblk
  have HXL : Hid _ := hXl
  clear hblk hXl hX hown
  go_wp2_with (refine wpList_copy_splice rfl (.tmp 19) (.tmp 20) 22 22 rfl 5 Try.underlying22 Try.size5 _ _ _ _ _ _ rfl rfl w.heap.size 0 X 5 HBLK.out (cellsOf f len0) ?n1 (fun _ => ⟨rfl, x, rfl, src_cells HC.out hgrow⟩) ?n3 (cellsOf_one _ _) B w ?n4 ?n5 ?_)
  case n1 => rw [cellsOf_len]; exact (Nat.min_self _).symm
  case n3 => rw [cellsOf_len, HXL.out]; omega
  case n4 => exact (Below.refl _ _).grown hgrow (by rw [HB.out]; exact Nat.le_refl _) (fun k hk => by cases hk)
  case n5 => rw [HB.out]; exact Nat.le_refl _
  intro w2 HG hB2
  have hR := copied HXL.out HG
  obtain ⟨g, hg⟩ : ∃ g, g = w.heap.size := ⟨_, rfl⟩
  rw [← hg] at hR
  have HR : Hid _ := hR
  clear HG HBLK HXL hR hne hgrow HC
  rw [← hg]
  clear hg
  go_wp2_with fail
  refine (zzEnds_any (some ⟨g, 0, none⟩) len0 len0 f _ hl HR.out).mono ?_
  rintro e w3 ⟨g3, m, c, ev, rfl, h1, h2, h3, h4, h5⟩
  have hR3 : Hid (Reads w3 (some ⟨g, 0, none⟩) len0 f) := Reads.later HR.out h4 (Nat.le_refl _)
  have hB3 : Hid (Below B w w3) := hB2.trans (h4.mono (by rw [HB.out]; exact hB2.size))
  have hm1 := h5.pos
  have hm2 := h5.le
  have hlast := h3 (m - 1) (by omega)
  rw [h5.last] at hlast
  by_cases hn0 : len0 = 0
  · subst hn0
    obtain ⟨rfl, h6⟩ := ends_empty h5
    clear h3 h5 h6 hm1 hm2
    go_wp2
    go_ret
    exact ⟨rfl, hB3.out⟩
  · have H5 := cuts_fact h5 (by omega)
    have HC3 : Hid _ := h3
    clear h3 h5
    have hm0 : ((m : Int) == 0) = false := by simp; omega
    have hl0 : ((len0 : Int) == 0) = false := by simp; omega
    go_wp2
    go_loop [5, 6] (fun p i => ∃ k s : Nat, k ≤ m ∧ i = .int .i64 k ∧ p = .int .i64 s ∧ s ≤ len0 ∧ ((k = 0 ∧ s = 0) ∨ (0 < k ∧ (s : Int) = ev (k - 1)))) (fun _ i => m - (intOf i).toNat)
    case atStart => exact ⟨0, 0, Nat.zero_le _, rfl, rfl, Nat.zero_le _, .inl ⟨rfl, rfl⟩⟩
    case round =>
      obtain ⟨k, s, hk, rfl, rfl, hsl, hs⟩ := hrel
      by_cases hlt : k < m
      · obtain ⟨t, ht, hst, htl, j, hseg⟩ := H5.out k s hlt hs
        have hck := HC3.out k hlt
        rw [ht] at hck
        have HT : Hid _ := ht
        have HSG : Hid (Pl.Seg f len0 s t ((k : Int) == (m : Int) - 1) j) := by
          have hdec : decide (k = m - 1) = ((k : Int) == (m : Int) - 1) := by rw [Bool.eq_iff_iff]; simp; omega
          rw [hdec] at hseg
          exact hseg
        clear ht hseg hs
        go_wp2_with fail
        refine (seg_any (some ⟨g, 0, none⟩) len0 len0 f w3 hl hR3.out s t j _ hst htl HSG.out).mono ?_
        rintro e w' ⟨rfl, rfl⟩
        go_wp2
        go_round
        case rel => exact ⟨k + 1, t, by omega, by go_num, rfl, htl, .inr ⟨by omega, HT.out.symm⟩⟩
        case measure => simp [intOf]; omega
      · go_wp2
        go_ret
        exact ⟨rfl, hB3.out⟩

end Go.Proofs.Qxb6617875a
