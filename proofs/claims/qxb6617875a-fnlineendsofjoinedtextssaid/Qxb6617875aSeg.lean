/-
  THE WALKS OF 'ZZlineEnds' (8), 'lineSegmentOK' (9), AND OF WHAT THE LAWS ASK FIRST.
-/
import Derived.Test.Qxb6617875aEnds
namespace Go.Proofs.Qxb6617875a
open Go.RowKit

set_option maxHeartbeats 400000 in
theorem zzEnds_any (ao : Option Addr) (n cap : Nat) (f : Nat → Int) (w : World) (hn : n ≤ 1048576) (ha : Reads w ao n f) :
    Calls Try.prog 8 #[.slice ao n cap] w fun e w' => EndsPost w.heap.size w f n e w' := by
  go_enter Try.func8, Try.ntmps8
  go_wp2_with fail
  refine (lineEnds_any ao n cap f _ hn ha).mono ?_
  rintro e w' ⟨g, m, c, ev, rfl, h1, h2, h3, h4, h5⟩
  go_wp2
  go_ret
  exact EndsPost.mk rfl h1 h2 h3 h4 h5

theorem ret_bool {b : Bool} (h : b = true) : Ending.returned (.bool b) = .returned (.bool true) := by rw [h]

set_option maxHeartbeats 800000 in
theorem seg_any (ao : Option Addr) (n cap : Nat) (f : Nat → Int) (w : World) (hn : n ≤ 1048576) (ha : Reads w ao n f) (s t j : Nat) (last : Bool) (hst : s < t) (htn : t ≤ n) (hs : Pl.Seg f n s t last j) :
    Calls Try.prog 9 #[.slice ao n cap, .int .i64 s, .int .i64 t, .bool last] w fun e w' => e = .returned (.bool true) ∧ w' = w := by
  rcases ha with h0 | ⟨b, off, rfl, hb, hc⟩
  · omega
  obtain ⟨hsj, hjt, hfree, hway⟩ := hs
  have HW : Hid _ := hway
  have HF : Hid _ := hfree
  have HC : Hid _ := hc
  clear hway hfree hc
  go_enter Try.func9, Try.ntmps9
  go_wp2
  go_loop [9] (fun i => ∃ q : Nat, s ≤ q ∧ q ≤ j ∧ i = .int .i64 q) (fun i => t - (intOf i).toNat)
  case atStart => exact ⟨s, Nat.le_refl _, hsj, rfl⟩
  case round =>
    obtain ⟨q, hq1, hq2, rfl⟩ := hrel
    by_cases hlt : q < j
    · have hc1 := HC.out q (by omega)
      have hfq := HF.out q hq1 hlt
      have e10 : (f q == 10) = false := by simpa using hfq.1
      have e13 : (f q == 13) = false := by simpa using hfq.2
      clear hfq
      go_wp2
      go_round
      case rel => exact ⟨q + 1, by omega, by omega, by go_num⟩
      case measure => simp [intOf]; omega
    · obtain rfl : q = j := by omega
      rcases HW.out with ⟨rfl, rfl⟩ | ⟨ht, h10⟩ | ⟨ht, h13, he⟩ | ⟨ht, h13, h10⟩
      · go_wp2
        go_ret
        exact ⟨rfl, rfl⟩
      · have hc1 := HC.out q (by omega)
        subst ht
        go_wp2
        go_ret
        exact ⟨rfl, rfl⟩
      · have hc1 := HC.out q (by omega)
        rcases he with he | ⟨he, hne⟩
        · subst ht
          subst he
          go_wp2
          go_ret
          exact ⟨rfl, rfl⟩
        · have hc2 := HC.out t he
          subst ht
          go_wp2
          go_ret
          exact ⟨ret_bool (by simp [hne]), rfl⟩
      · have hc1 := HC.out q (by omega)
        have hc2 := HC.out (q + 1) (by omega)
        subst ht
        go_wp2
        go_ret
        exact ⟨rfl, rfl⟩

end Go.Proofs.Qxb6617875a
