/-
  THE WALKS OF 'sameUpToCase' (12) AND 'isUpperASCII' (10).
-/
import Derived.Test.Qxb6617954aRows
import Derived.Test.Qxb6617954aPlain
import Derived.WalkKit
import Derived.WalkSpells
import Derived.WalkLawsBesides
namespace Go.Proofs.Qxb6617954a
open Go.RowKit

theorem ret_bool {a b : Bool} (h : a = b) : Ending.returned (.bool a) = .returned (.bool b) := by rw [h]
theorem val_bool {a b : Bool} (h : a = b) : Value.bool a = .bool b := by rw [h]
theorem val_int {k : IntKind} {a b : Int} (h : a = b) : Value.int k a = .int k b := by rw [h]

theorem or32_all : ∀ n : Fin 256, bits BinOp.or IntKind.u8 (n.val : Int) 32 = Pl.o32 (n.val : Int) := by decide +kernel
theorem or32 (x : UInt8) : bits BinOp.or IntKind.u8 (x.toNat : Int) 32 = Pl.o32 (x.toNat : Int) := or32_all ⟨x.toNat, x.toNat_lt⟩

set_option maxHeartbeats 400000 in
theorem same_any (x y : UInt8) (w : World) :
    Calls Try.prog 12 #[.int .u8 x.toNat, .int .u8 y.toNat] w fun e w' => e = .returned (.bool (decide (Pl.lo x = Pl.lo y))) ∧ w' = w := by
  have hs := Pl.same_iff x y
  obtain ⟨X, hX⟩ : ∃ X : Int, X = (x.toNat : Int) := ⟨_, rfl⟩
  obtain ⟨Y, hY⟩ : ∃ Y : Int, Y = (y.toNat : Int) := ⟨_, rfl⟩
  have e1 := or32 x
  have e2 := or32 y
  rw [← hX, ← hY] at hs
  rw [← hX] at e1
  rw [← hY] at e2
  rw [← hX, ← hY]
  obtain ⟨ox, hox⟩ : ∃ ox, bits BinOp.or IntKind.u8 X 32 = ox := ⟨_, rfl⟩
  obtain ⟨oy, hoy⟩ : ∃ oy, bits BinOp.or IntKind.u8 Y 32 = oy := ⟨_, rfl⟩
  rw [← e1, ← e2, hox, hoy] at hs
  obtain ⟨ans, hans⟩ : ∃ b, b = decide (Pl.lo x = Pl.lo y) := ⟨_, rfl⟩
  rw [← hans]
  have HA : Hid (ans = decide (X = Y ∨ (ox = oy ∧ 97 ≤ ox ∧ ox ≤ 122))) := by
    rw [hans]
    exact decide_eq_decide.2 hs
  clear hs hans e1 e2 hX hY
  by_cases hxy : X = Y
  · have hb : (X == Y) = true := by rw [beq_iff_eq]; exact hxy
    have HV : Hid (ans = true) := by rw [HA.out]; exact decide_eq_true (.inl hxy)
    clear hxy HA
    go_enter Try.func12, Try.ntmps12
    go_wp2
    go_ret
    exact ⟨ret_bool HV.out.symm, rfl⟩
  · have hb : (X == Y) = false := by rw [beq_eq_false_iff_ne]; exact hxy
    by_cases ho : ox = oy
    · have hb2 : (ox == oy) = true := by rw [beq_iff_eq]; exact ho
      by_cases h97 : 97 ≤ ox
      · by_cases h122 : ox ≤ 122
        · have HV : Hid (ans = true) := by rw [HA.out]; exact decide_eq_true (.inr ⟨ho, h97, h122⟩)
          clear ho hxy HA
          go_enter Try.func12, Try.ntmps12
          go_wp2
          go_ret
          exact ⟨ret_bool (by rw [HV.out]), rfl⟩
        · have HV : Hid (ans = false) := by rw [HA.out]; exact decide_eq_false (by omega)
          clear ho hxy HA
          go_enter Try.func12, Try.ntmps12
          go_wp2
          go_ret
          exact ⟨ret_bool (by rw [HV.out]), rfl⟩
      · have HV : Hid (ans = false) := by rw [HA.out]; exact decide_eq_false (by omega)
        clear ho hxy HA
        go_enter Try.func12, Try.ntmps12
        go_wp2
        go_ret
        exact ⟨ret_bool (by rw [HV.out]), rfl⟩
    · have hb2 : (ox == oy) = false := by rw [beq_eq_false_iff_ne]; exact ho
      have HV : Hid (ans = false) := by rw [HA.out]; exact decide_eq_false (by omega)
      clear ho hxy HA
      go_enter Try.func12, Try.ntmps12
      go_wp2
      go_ret
      exact ⟨ret_bool (by rw [HV.out]), rfl⟩

end Go.Proofs.Qxb6617954a
