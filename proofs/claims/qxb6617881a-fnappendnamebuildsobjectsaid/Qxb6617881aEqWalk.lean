/-
  THE WALKS OF 'zzBytesEqual' (10) AND 'zzBytesEqualString' (12).
-/
import Derived.Test.Qxb6617881aJsonWalk
namespace Go.Proofs.Qxb6617881a
open Go.RowKit

theorem eq_no_len {f g : Nat → Int} {n m : Nat} {K M : List UInt8} (h1 : Is f n K) (h2 : Is g m M) (h : n ≠ m) : decide (K = M) = false := by
  rw [decide_eq_false_iff_not]
  intro e
  apply h
  rw [h1.1, h2.1, e]
theorem eq_no_at {f g : Nat → Int} {n m : Nat} {K M : List UInt8} (h1 : Is f n K) (h2 : Is g m M) {k : Nat} (hk : k < n) (hm : k < m) (h : ¬ f k = g k) : decide (K = M) = false := by
  rw [decide_eq_false_iff_not]
  intro e
  apply h
  rw [h1.2 k hk, h2.2 k hm, e]
theorem eq_yes {f g : Nat → Int} {n : Nat} {K M : List UInt8} (h1 : Is f n K) (h2 : Is g n M) (h : ∀ j, j < n → f j = g j) : decide (K = M) = true := by
  rw [decide_eq_true_iff]
  apply List.ext_getElem
  · rw [← h1.1, ← h2.1]
  · intro j hj1 hj2
    have hj : j < n := by rw [h1.1]; exact hj1
    have e := h j hj
    rw [h1.2 j hj, h2.2 j hj] at e
    have e2 : (K.getD j 0) = (M.getD j 0) := UInt8.toNat_inj.1 (by omega)
    simpa [List.getD, hj1, hj2] using e2

set_option maxHeartbeats 800000 in
theorem bytesEq_any (ao : Option Addr) (n cap : Nat) (f : Nat → Int) (K : List UInt8) (bo : Option Addr) (m capb : Nat) (g : Nat → Int) (M : List UInt8) (w : World) (hn : n ≤ 2097152) (hm : m ≤ 2097152) (hR : Reads w ao n f) (hI : Is f n K) (hS : Reads w bo m g) (hJ : Is g m M) :
    Calls Try.prog 10 #[.slice ao n cap, .slice bo m capb] w fun e w' => e = .returned (.bool (decide (K = M))) ∧ Below w.heap.size w w' := by
  by_cases hnm : n = m
  · subst hnm
    obtain ⟨ans, hans⟩ : ∃ b, b = decide (K = M) := ⟨_, rfl⟩
    rw [← hans]
    have HA : Hid (ans = decide (K = M)) := hans
    have HR : Hid _ := hR
    have HI : Hid _ := hI
    have HS : Hid _ := hS
    have HJ : Hid _ := hJ
    clear hR hI hS hJ hans
    go_enter Try.func10, Try.ntmps10
    go_wp2
    go_loopw [5] (fun i wr => ∃ k : Nat, k ≤ n ∧ i = .int .i64 k ∧ Hid (∀ j, j < k → f j = g j) ∧ Below w.heap.size w wr) (fun i _ => n - (intOf i).toNat)
    case atStart => exact ⟨0, Nat.zero_le _, rfl, fun j hj => absurd hj (by omega), Below.refl _ _⟩
    case round =>
      obtain ⟨k, hk, rfl, hall, hbr⟩ := hrel
      by_cases hlt : k < n
      · rcases HR.out with h0 | ⟨b1, o1, rfl, hb1, hc1⟩
        · omega
        rcases HS.out with h0 | ⟨b2, o2, rfl, hb2, hc2⟩
        · omega
        have ck1 : wr.cell? ⟨b1, o1 + k, none⟩ = some (.int .u8 (f k)) := (hbr.cell (p := ⟨b1, o1 + k, none⟩) hb1).trans (hc1 k hlt)
        have ck2 : wr.cell? ⟨b2, o2 + k, none⟩ = some (.int .u8 (g k)) := (hbr.cell (p := ⟨b2, o2 + k, none⟩) hb2).trans (hc2 k hlt)
        clear hc1 hc2
        have hi1 : (k : Int) < (n : Int) := by omega
        by_cases he : f k = g k
        · have HX : Hid (∀ j, j < k + 1 → f j = g j) := fun j hj => by
            by_cases e : j = k
            · rw [e]; exact he
            · exact hall.out j (by omega)
          rw [he] at ck1
          clear he
          go_wp2
          go_quiet (fail)
          go_wp2
          go_roundw
          case rel => exact ⟨k + 1, by omega, by go_num, HX, below_drewN hbr _⟩
          case measure => simp [intOf]; omega
        · have HX : Hid (ans = false) := by rw [HA.out]; exact eq_no_at HI.out HJ.out hlt hlt he
          have heb : (f k == g k) = false := by rw [beq_eq_false_iff_ne]; exact he
          clear he
          go_wp2
          go_quiet (fail)
          go_wp2
          go_ret
          exact ⟨ret_bool HX.out.symm, below_drewN hbr _⟩
      · have HX : Hid (ans = true) := by rw [HA.out]; exact eq_yes HI.out HJ.out (fun j hj => hall.out j (by omega))
        go_wp2
        go_ret
        exact ⟨ret_bool HX.out.symm, hbr⟩
  · rw [eq_no_len hI hJ hnm]
    have hb : ((n : Int) == (m : Int)) = false := by rw [beq_eq_false_iff_ne]; omega
    go_enter Try.func10, Try.ntmps10
    go_wp2
    go_ret
    exact ⟨rfl, Below.refl _ _⟩

/-- A string's bytes, as numbers. -/
theorem str_is (s : ByteArray) : Is (fun j => ((s.data.toList.getD j 0).toNat : Int)) s.size s.data.toList := ⟨(len_data s).symm, fun _ _ => rfl⟩

set_option maxHeartbeats 800000 in
theorem bytesEqStr_any (ao : Option Addr) (n cap : Nat) (f : Nat → Int) (K : List UInt8) (s : ByteArray) (w : World) (hm : s.size ≤ 2097152) (hR : Reads w ao n f) (hI : Is f n K) :
    Calls Try.prog 12 #[.slice ao n cap, .string s] w fun e w' => e = .returned (.bool (decide (K = s.data.toList))) ∧ Below w.heap.size w w' := by
  by_cases hnm : n = s.size
  · obtain ⟨g, hg⟩ : ∃ g : Nat → Int, g = fun j => ((s.data.toList.getD j 0).toNat : Int) := ⟨_, rfl⟩
    have hJ : Is g s.size s.data.toList := by rw [hg]; exact str_is s
    have HBy : Hid (∀ j (hj : j < s.size), g j = (s[j].toNat : Int)) := by
      intro j hj
      rw [hg]
      show ((s.data.toList.getD j 0).toNat : Int) = _
      rw [byte_getD s j hj]
    obtain ⟨M, hM⟩ : ∃ M, M = s.data.toList := ⟨_, rfl⟩
    rw [← hM] at hJ ⊢
    clear hM hg
    obtain ⟨ans, hans⟩ : ∃ b, b = decide (K = M) := ⟨_, rfl⟩
    rw [← hans]
    have HA : Hid (ans = decide (K = M)) := hans
    have HR : Hid _ := hR
    have HI : Hid _ := hI
    have HJ : Hid _ := hJ
    have HNM : Hid _ := hnm
    have hb : ((n : Int) == (s.size : Int)) = true := by rw [beq_iff_eq]; omega
    have hle : n ≤ s.size := by omega
    clear hR hI hJ hans hnm
    go_enter Try.func12, Try.ntmps12
    go_wp2
    go_loopw [5] (fun i wr => ∃ k : Nat, k ≤ n ∧ i = .int .i64 k ∧ Hid (∀ j, j < k → f j = g j) ∧ Below w.heap.size w wr) (fun i _ => n - (intOf i).toNat)
    case atStart => exact ⟨0, Nat.zero_le _, rfl, fun j hj => absurd hj (by omega), Below.refl _ _⟩
    case round =>
      obtain ⟨k, hk, rfl, hall, hbr⟩ := hrel
      by_cases hlt : k < n
      · rcases HR.out with h0 | ⟨b1, o1, rfl, hb1, hc1⟩
        · omega
        have ck1 : wr.cell? ⟨b1, o1 + k, none⟩ = some (.int .u8 (f k)) := (hbr.cell (p := ⟨b1, o1 + k, none⟩) hb1).trans (hc1 k hlt)
        clear hc1
        have hlts : k < s.size := by omega
        have hi1 : (k : Int) < (n : Int) := by omega
        have hi2 : (k : Int) < (s.size : Int) := by omega
        by_cases he : f k = (s[k].toNat : Int)
        · have HX : Hid (∀ j, j < k + 1 → f j = g j) := fun j hj => by
            by_cases e : j = k
            · rw [e, HBy.out k hlts]; exact he
            · exact hall.out j (by omega)
          rw [he] at ck1
          clear he
          go_wp2
          go_quiet (fail)
          go_wp2
          go_roundw
          case rel => exact ⟨k + 1, by omega, by go_num, HX, below_drewN hbr _⟩
          case measure => simp [intOf]; omega
        · have HX : Hid (ans = false) := by rw [HA.out]; exact eq_no_at HI.out HJ.out hlt hlts (by rw [HBy.out k hlts]; exact he)
          have heb : (f k == (s[k].toNat : Int)) = false := by rw [beq_eq_false_iff_ne]; exact he
          clear he
          go_wp2
          go_quiet (fail)
          go_wp2
          go_ret
          exact ⟨ret_bool HX.out.symm, below_drewN hbr _⟩
      · have HX : Hid (ans = true) := by rw [HA.out]; exact eq_yes HI.out (HNM.out ▸ HJ.out) (fun j hj => hall.out j (by omega))
        go_wp2
        go_ret
        exact ⟨ret_bool HX.out.symm, hbr⟩
  · rw [eq_no_len hI (str_is s) hnm]
    have hb : ((n : Int) == (s.size : Int)) = false := by rw [beq_eq_false_iff_ne]; omega
    go_enter Try.func12, Try.ntmps12
    go_wp2
    go_ret
    exact ⟨rfl, Below.refl _ _⟩

end Go.Proofs.Qxb6617881a
