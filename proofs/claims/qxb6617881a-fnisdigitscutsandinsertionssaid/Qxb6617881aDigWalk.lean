/-
  THE WALKS OF 'isDigits' (19) AND 'ZZisDigits' (14).
-/
import Derived.Test.Qxb6617881aOwn
import Derived.Test.Qxb6617881aDigPlain
namespace Go.Proofs.Qxb6617881a
open Go.RowKit

theorem dig_no {s : ByteArray} {k : Nat} (h : k < s.size) (hb : (s[k].toNat : Int) < 48 ∨ 57 < (s[k].toNat : Int)) : Pl.dg s.data.toList = false := by
  rw [Pl.dg_pos (by rw [len_data]; omega)]
  cases e : s.data.toList.all Pl.isd with
  | false => rfl
  | true =>
    have := Pl.all_getD.1 e k (by rw [len_data]; exact h)
    rw [byte_getD s k h] at this
    simp [Pl.isd] at this
    omega
theorem dig_yes {s : ByteArray} (h : ∀ j (hj : j < s.size), (48 : Int) ≤ (s[j].toNat : Int) ∧ (s[j].toNat : Int) ≤ 57) : Pl.dg s.data.toList = !s.data.toList.isEmpty := by
  have e : s.data.toList.all Pl.isd = true := by
    rw [Pl.all_getD]
    intro j hj
    rw [len_data] at hj
    rw [byte_getD s j hj]
    have := h j hj
    simp [Pl.isd]
    omega
  simp [Pl.dg, e]

set_option maxHeartbeats 800000 in
theorem digits_any (s : ByteArray) (w : World) (hs : s.size ≤ maxLen) :
    Calls Try.prog 19 #[.string s] w fun e w' => e = .returned (.bool (Pl.dg s.data.toList)) ∧ w' = w := by
  unfold maxLen at hs
  go_enter Try.func19, Try.ntmps19
  go_wp2
  go_loop [3] (fun i => ∃ k : Nat, k ≤ s.size ∧ i = .int .i64 k ∧ Hid (∀ j (hj : j < s.size), j < k → (48 : Int) ≤ (s[j].toNat : Int) ∧ (s[j].toNat : Int) ≤ 57)) (fun i => s.size - (intOf i).toNat)
  case atStart => exact ⟨0, Nat.zero_le _, rfl, fun j _ h => absurd h (by omega)⟩
  case round =>
    obtain ⟨k, hk, rfl, hall⟩ := hrel
    by_cases hlt : k < s.size
    · by_cases hb : (s[k].toNat : Int) < 48 ∨ 57 < (s[k].toNat : Int)
      · have HD : Hid (Pl.dg s.data.toList = false) := dig_no hlt hb
        by_cases h48 : (s[k].toNat : Int) < 48
        · clear hb
          go_wp2
          go_ret
          exact ⟨ret_bool HD.out.symm, rfl⟩
        · have h57 : 57 < (s[k].toNat : Int) := by omega
          have h48' : (48 : Int) ≤ (s[k].toNat : Int) := by omega
          clear hb h48
          go_wp2
          go_ret
          exact ⟨ret_bool HD.out.symm, rfl⟩
      · have HN : Hid (∀ j (hj : j < s.size), j < k + 1 → (48 : Int) ≤ (s[j].toNat : Int) ∧ (s[j].toNat : Int) ≤ 57) := by
          intro j hj hjk
          by_cases e : j = k
          · subst e; omega
          · exact hall.out j hj (by omega)
        have hb1 : (48 : Int) ≤ (s[k].toNat : Int) := by omega
        have hb2 : (s[k].toNat : Int) ≤ 57 := by omega
        clear hb
        go_wp2
        go_round
        case rel => exact ⟨k + 1, by omega, by go_num, HN⟩
        case measure => simp [intOf]; omega
    · have HD : Hid (Pl.dg s.data.toList = !s.toList.isEmpty) := by
        show _ = _
        rw [ByteArray.toList_eq]
        exact dig_yes (fun j hj => hall.out j hj (by omega))
      go_wp2
      go_ret
      exact ⟨ret_bool HD.out.symm, rfl⟩

set_option maxHeartbeats 400000 in
theorem zzDigits_any (s : ByteArray) (w : World) (hs : s.size ≤ maxLen) :
    Calls Try.prog 14 #[.string s] w fun e w' => e = .returned (.bool (Pl.dg s.data.toList)) ∧ w' = w := by
  go_enter Try.func14, Try.ntmps14
  go_wp2_with fail
  refine (digits_any s _ hs).mono ?_
  rintro e w' ⟨rfl, rfl⟩
  go_wp2
  go_ret
  exact ⟨rfl, rfl⟩

end Go.Proofs.Qxb6617881a
