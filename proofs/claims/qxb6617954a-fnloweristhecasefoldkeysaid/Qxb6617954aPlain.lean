/-
  THE PLAIN LAW OF 'lower'. No Go in sight.
-/
namespace Go.Proofs.Qxb6617954a.Pl

def lo (c : UInt8) : UInt8 := if 65 ≤ c.toNat ∧ c.toNat ≤ 90 then c + 32 else c
def lows (l : List UInt8) : List UInt8 := l.map lo
/-- The number of c with bit 32 set. -/
def o32 (n : Int) : Int := if (n / 32) % 2 = 1 then n else n + 32

theorem lo_up {c : UInt8} (h : 65 ≤ c.toNat ∧ c.toNat ≤ 90) : (lo c).toNat = c.toNat + 32 := by
  unfold lo
  rw [if_pos h, UInt8.toNat_add]
  simp
  omega
theorem lo_same {c : UInt8} (h : ¬ (65 ≤ c.toNat ∧ c.toNat ≤ 90)) : lo c = c := by
  unfold lo
  rw [if_neg h]
theorem lo_num (c : UInt8) : ((lo c).toNat : Int) = if 65 ≤ (c.toNat : Int) ∧ (c.toNat : Int) ≤ 90 then (c.toNat : Int) + 32 else (c.toNat : Int) := by
  by_cases h : 65 ≤ c.toNat ∧ c.toNat ≤ 90
  · rw [lo_up h, if_pos (by omega)]
    omega
  · rw [lo_same h, if_neg (by omega)]
theorem lo_not_up (c : UInt8) : ¬ (65 ≤ ((lo c).toNat : Int) ∧ ((lo c).toNat : Int) ≤ 90) := by
  rw [lo_num c]
  split <;> omega
theorem lo_lo (c : UInt8) : lo (lo c) = lo c := lo_same (by have := lo_not_up c; omega)
theorem lows_lows (l : List UInt8) : lows (lows l) = lows l := by
  unfold lows
  rw [List.map_map]
  apply List.map_congr_left
  intro c _
  exact lo_lo c
theorem lows_len (l : List UInt8) : (lows l).length = l.length := by simp [lows]
theorem lows_cut (l : List UInt8) (k : Nat) : lows l = lows (l.take k) ++ lows (l.drop k) := by
  unfold lows
  rw [← List.map_append, List.take_append_drop]
theorem lows_getD (l : List UInt8) (j : Nat) (h : j < l.length) : (lows l).getD j 0 = lo (l.getD j 0) := by
  simp [lows, List.getD, h]

/-- What sameUpToCase reckons. -/
theorem same_iff (x y : UInt8) : lo x = lo y ↔ ((x.toNat : Int) = (y.toNat : Int) ∨ (o32 x.toNat = o32 y.toNat ∧ 97 ≤ o32 x.toNat ∧ o32 x.toNat ≤ 122)) := by
  have hx : x.toNat < 256 := x.toNat_lt
  have hy : y.toNat < 256 := y.toNat_lt
  have h1 := lo_num x
  have h2 := lo_num y
  have h3 : lo x = lo y ↔ ((lo x).toNat : Int) = ((lo y).toNat : Int) := by
    rw [← UInt8.toNat_inj]
    omega
  rw [h3, h1, h2]
  unfold o32
  split <;> split <;> split <;> split <;> omega

theorem lows_eq {K M : List UInt8} (hl : K.length = M.length) (h : ∀ j, j < K.length → lo (K.getD j 0) = lo (M.getD j 0)) : lows K = lows M := by
  apply List.ext_getElem
  · rw [lows_len, lows_len, hl]
  · intro j h1 h2
    rw [lows_len] at h1 h2
    have := h j h1
    simp [List.getD, h1, h2] at this
    simp [lows, this]

end Go.Proofs.Qxb6617954a.Pl
