/-
  THE WALKS OF 'isFoldRep' (7) AND 'foldEqual' (8).
-/
import Derived.Test.Qxb6617954aLowerWalk
namespace Go.Proofs.Qxb6617954a
open Go.RowKit

/-- sameUpToCase, its arguments plain numbers. -/
theorem same_num (X Y : Int) (x y : UInt8) (hx : X = (x.toNat : Int)) (hy : Y = (y.toNat : Int)) (b : Bool) (hb : decide (Pl.lo x = Pl.lo y) = b) (w : World) :
    Calls Try.prog 12 #[.int .u8 X, .int .u8 Y] w fun e w' => e = .returned (.bool b) ∧ w' = w := by
  subst hx hy hb
  exact same_any x y w

set_option maxHeartbeats 800000 in
theorem rep_any (t : ByteArray) (ao : Option Addr) (n c : Nat) (f : Nat → Int) (K : List UInt8) (w : World) (hn : n ≤ 1048576) (hR : Reads w ao n f) (hI : Is f n K) (ht : t.data.toList = Pl.lows K) :
    Calls Try.prog 7 #[.string t, .slice ao n c] w fun e w' => e = .returned (.bool true) ∧ Below w.heap.size w w' := by
  have HSz : Hid (t.size = n) := by
    show _ = _
    rw [← len_data, ht, Pl.lows_len, hI.1]
  have HE : Hid (∀ j (hj : j < t.size), t[j] = Pl.lo (K.getD j 0)) := by
    intro j hj
    rw [← byte_getD t j hj, ht]
    exact Pl.lows_getD K j (by rw [← hI.1, ← HSz.out]; exact hj)
  have HR : Hid (Reads w ao n f) := hR
  have HI : Hid (Is f n K) := hI
  have hszb : ((t.size : Int) != (n : Int)) = false := by rw [HSz.out]; simp
  have hle1 : t.size ≤ n := Nat.le_of_eq HSz.out
  clear hR hI ht
  go_enter Try.func7, Try.ntmps7
  go_wp2
  go_loopw [5] (fun si wr => ∃ k : Nat, k ≤ t.size ∧ si = .int .i64 k ∧ Below w.heap.size w wr) (fun si _ => t.size - (intOf si).toNat)
  case atStart => exact ⟨0, Nat.zero_le _, rfl, Below.refl _ _⟩
  case round =>
    obtain ⟨k, hk, rfl, hbr⟩ := hrel
    by_cases hlt : k < t.size
    · have hltn : k < n := by omega
      rcases HR.out with h0 | ⟨b, off, rfl, hb, hc⟩
      · omega
      have hck : wr.cell? ⟨b, off + k, none⟩ = some (.int .u8 (f k)) := (hbr.cell (p := ⟨b, off + k, none⟩) hb).trans (hc k hltn)
      clear hc
      have hup : ¬ (65 ≤ (t[k].toNat : Int) ∧ (t[k].toNat : Int) ≤ 90) := by
        rw [HE.out k hlt]
        exact Pl.lo_not_up _
      have HSm : Hid (decide (Pl.lo t[k] = Pl.lo (K.getD k 0)) = true) := by
        show _ = _
        rw [decide_eq_true_iff, HE.out k hlt, Pl.lo_lo]
      have hi1 : (k : Int) < (n : Int) := by omega
      have hi2 : (k : Int) < (t.size : Int) := by omega
      by_cases h65 : 65 ≤ (t[k].toNat : Int)
      · have h90 : 90 < (t[k].toNat : Int) := by omega
        clear hup
        go_wp2
        go_quiet ((go_at_call 12; exact Calls.quiet_of_same (same_num _ _ t[k] (K.getD k 0) rfl (HI.out.2 k hltn) true HSm.out _)))
        go_wp2
        go_roundw
        case rel => exact ⟨k + 1, by omega, by go_num, below_drewN hbr _⟩
        case measure => simp [intOf]; omega
      · have h65' : (t[k].toNat : Int) < 65 := by omega
        clear hup h65
        go_wp2
        go_quiet ((go_at_call 12; exact Calls.quiet_of_same (same_num _ _ t[k] (K.getD k 0) rfl (HI.out.2 k hltn) true HSm.out _)))
        go_wp2
        go_roundw
        case rel => exact ⟨k + 1, by omega, by go_num, below_drewN hbr _⟩
        case measure => simp [intOf]; omega
    · go_wp2
      go_ret
      exact ⟨rfl, hbr⟩

theorem fold_no_len {f g : Nat → Int} {n m : Nat} {K M : List UInt8} (h1 : Is f n K) (h2 : Is g m M) (h : n ≠ m) : decide (Pl.lows K = Pl.lows M) = false := by
  rw [decide_eq_false_iff_not]
  intro e
  apply h
  have := congrArg List.length e
  rw [Pl.lows_len, Pl.lows_len, ← h1.1, ← h2.1] at this
  exact this
theorem fold_no_at {K M : List UInt8} {k : Nat} (hk : k < K.length) (hm : k < M.length) (h : decide (Pl.lo (K.getD k 0) = Pl.lo (M.getD k 0)) = false) : decide (Pl.lows K = Pl.lows M) = false := by
  rw [decide_eq_false_iff_not] at h ⊢
  intro e
  apply h
  rw [← Pl.lows_getD K k hk, ← Pl.lows_getD M k hm, e]

set_option maxHeartbeats 800000 in
theorem fold_any (ao : Option Addr) (n c : Nat) (f : Nat → Int) (K : List UInt8) (bo : Option Addr) (m cb : Nat) (g : Nat → Int) (M : List UInt8) (w : World) (hn : n ≤ 1048576) (hm : m ≤ 1048576) (hR : Reads w ao n f) (hI : Is f n K) (hS : Reads w bo m g) (hJ : Is g m M) :
    Calls Try.prog 8 #[.slice ao n c, .slice bo m cb] w fun e w' => e = .returned (.bool (decide (Pl.lows K = Pl.lows M))) ∧ Below w.heap.size w w' := by
  by_cases hnm : n = m
  · subst hnm
    obtain ⟨ans, hans⟩ : ∃ b, b = decide (Pl.lows K = Pl.lows M) := ⟨_, rfl⟩
    rw [← hans]
    have HA : Hid (ans = decide (Pl.lows K = Pl.lows M)) := hans
    have HR : Hid (Reads w ao n f) := hR
    have HI : Hid (Is f n K) := hI
    have HS : Hid (Reads w bo n g) := hS
    have HJ : Hid (Is g n M) := hJ
    clear hR hI hS hJ hans
    go_enter Try.func8, Try.ntmps8
    go_wp2
    go_loopw [5] (fun i wr => ∃ k : Nat, k ≤ n ∧ i = .int .i64 k ∧ Hid (∀ j, j < k → Pl.lo (K.getD j 0) = Pl.lo (M.getD j 0)) ∧ Below w.heap.size w wr) (fun i _ => n - (intOf i).toNat)
    case atStart => exact ⟨0, Nat.zero_le _, rfl, fun j hj => absurd hj (by omega), Below.refl _ _⟩
    case round =>
      obtain ⟨k, hk, rfl, hall, hbr⟩ := hrel
      by_cases hlt : k < n
      · rcases HR.out with h0 | ⟨b1, o1, rfl, hb1, hc1⟩
        · omega
        rcases HS.out with h0 | ⟨b2, o2, rfl, hb2, hc2⟩
        · omega
        have ck1 : wr.cell? ⟨b1, o1 + k, none⟩ = some (.int .u8 (f k)) := (hbr.cell (p := ⟨b1, o1 + k, none⟩) hb1).trans (hc1 k hlt)
        have ck2 : wr.cell? ⟨b2, o2 + k, none⟩ = some (.int .u8 (g k)) := (hbr.cell (p := ⟨b2, o2 + k, none⟩) hb2).trans (hc2 k hlt)
        clear hc1 hc2
        have hi1 : (k : Int) < (n : Int) := by omega
        by_cases he : Pl.lo (K.getD k 0) = Pl.lo (M.getD k 0)
        · have HX : Hid (∀ j, j < k + 1 → Pl.lo (K.getD j 0) = Pl.lo (M.getD j 0)) := fun j hj => by
            by_cases e : j = k
            · rw [e]; exact he
            · exact hall.out j (by omega)
          have HSm : Hid (decide (Pl.lo (K.getD k 0) = Pl.lo (M.getD k 0)) = true) := decide_eq_true he
          clear he
          go_wp2
          go_quiet ((go_at_call 12; exact Calls.quiet_of_same (same_num _ _ (K.getD k 0) (M.getD k 0) (HI.out.2 k hlt) (HJ.out.2 k hlt) true HSm.out _)))
          go_wp2
          go_roundw
          case rel => exact ⟨k + 1, by omega, by go_num, HX, below_drewN hbr _⟩
          case measure => simp [intOf]; omega
        · have HSm : Hid (decide (Pl.lo (K.getD k 0) = Pl.lo (M.getD k 0)) = false) := decide_eq_false he
          have HX : Hid (ans = false) := by rw [HA.out]; exact fold_no_at (by rw [← HI.out.1]; exact hlt) (by rw [← HJ.out.1]; exact hlt) HSm.out
          clear he
          go_wp2
          go_quiet ((go_at_call 12; exact Calls.quiet_of_same (same_num _ _ (K.getD k 0) (M.getD k 0) (HI.out.2 k hlt) (HJ.out.2 k hlt) false HSm.out _)))
          go_wp2
          go_ret
          exact ⟨ret_bool HX.out.symm, below_drewN hbr _⟩
      · have HX : Hid (ans = true) := by
          rw [HA.out]
          refine decide_eq_true (Pl.lows_eq (by rw [← HI.out.1, ← HJ.out.1]) (fun j hj => hall.out j ?_))
          rw [← HI.out.1] at hj
          omega
        go_wp2
        go_ret
        exact ⟨ret_bool HX.out.symm, hbr⟩
  · rw [fold_no_len hI hJ hnm]
    have hb : ((n : Int) == (m : Int)) = false := by rw [beq_eq_false_iff_ne]; omega
    go_enter Try.func8, Try.ntmps8
    go_wp2
    go_ret
    exact ⟨rfl, Below.refl _ _⟩

end Go.Proofs.Qxb6617954a
