/-
  THE PLAIN LAW OF 'appendName'. No Go in sight.
-/
namespace Go.Proofs.Qxb6617881a.Pl

def lastB (l : List UInt8) : UInt8 := l.getD (l.length - 1) 0
def member (s : List UInt8) : List UInt8 := [34] ++ s ++ [34, 58]
/-- One call of appendName. -/
def apn (l s : List UInt8) : List UInt8 := l ++ (if lastB l = 123 then [] else [44]) ++ [34] ++ s ++ [34, 58]
def gotK (K : List UInt8) (S : Nat → List UInt8) : Nat → List UInt8
  | 0 => K
  | k + 1 => apn (gotK K S k) (S k)
def want0 (K : List UInt8) (m : Nat) : List UInt8 := K ++ (if 0 < m ∧ lastB K ≠ 123 then [44] else [])
def wantK (K : List UInt8) (S : Nat → List UInt8) (m : Nat) : Nat → List UInt8
  | 0 => want0 K m
  | k + 1 => wantK K S m k ++ (if 0 < k then [44] else []) ++ [34] ++ S k ++ [34, 58]
/-- The law's own count. -/
def tot (n : Nat) (S : Nat → List UInt8) : Nat → Nat
  | 0 => n
  | k + 1 => tot n S k + (16 + (S k).length)

theorem lastB_append (l r : List UInt8) (h : 0 < r.length) : lastB (l ++ r) = lastB r := by
  unfold lastB
  rw [List.getD_eq_getElem?_getD, List.getD_eq_getElem?_getD, List.getElem?_append_right (by simp; omega)]
  simp only [List.length_append]
  rw [show l.length + r.length - 1 - l.length = r.length - 1 by omega]
theorem lastB_apn (l s : List UInt8) : lastB (apn l s) = 58 := by
  unfold apn
  rw [lastB_append _ [34, 58] (by simp)]
  rfl
theorem apn_len (l s : List UInt8) : (apn l s).length ≤ l.length + (4 + s.length) := by
  unfold apn
  split <;> simp <;> omega
theorem apn_pos (l s : List UInt8) : 0 < (apn l s).length := by
  unfold apn
  simp
  omega
theorem gotK_pos (K : List UInt8) (S : Nat → List UInt8) (h : 0 < K.length) (k : Nat) : 0 < (gotK K S k).length := by
  cases k with
  | zero => exact h
  | succ k => exact apn_pos _ _
theorem gotK_len (K : List UInt8) (S : Nat → List UInt8) (k : Nat) : (gotK K S k).length ≤ tot K.length S k := by
  induction k with
  | zero => exact Nat.le_refl _
  | succ k ih =>
    have := apn_len (gotK K S k) (S k)
    simp only [gotK, tot]
    omega
theorem wantK_len (K : List UInt8) (S : Nat → List UInt8) (m k : Nat) : (wantK K S m k).length ≤ tot K.length S k + 1 := by
  induction k with
  | zero =>
    simp only [wantK, want0, tot]
    split <;> simp
  | succ k ih =>
    simp only [wantK, tot]
    split <;> simp <;> omega
theorem tot_mono (n : Nat) (S : Nat → List UInt8) {a b : Nat} (h : a ≤ b) : tot n S a ≤ tot n S b := by
  induction b with
  | zero =>
    have : a = 0 := by omega
    rw [this]
    exact Nat.le_refl _
  | succ b ih =>
    by_cases e : a = b + 1
    · rw [e]; exact Nat.le_refl _
    · have := ih (by omega)
      simp only [tot]
      omega
theorem got_want (K : List UInt8) (S : Nat → List UInt8) (m : Nat) (hm : 0 < m) (k : Nat) : gotK K S (k + 1) = wantK K S m (k + 1) := by
  induction k with
  | zero =>
    simp only [gotK, wantK, want0, apn]
    by_cases h : lastB K = 123 <;> simp [h, hm]
  | succ k ih =>
    have h1 : gotK K S (k + 1 + 1) = apn (gotK K S (k + 1)) (S (k + 1)) := rfl
    have h2 : wantK K S m (k + 1 + 1) = wantK K S m (k + 1) ++ (if 0 < k + 1 then [44] else []) ++ [34] ++ S (k + 1) ++ [34, 58] := rfl
    rw [h1, h2, ← ih]
    have h3 : lastB (gotK K S (k + 1)) = 58 := lastB_apn _ _
    unfold apn
    rw [h3, if_neg (by decide), if_pos (by omega)]
/-- THE PLAIN LAW. -/
theorem got_eq_want (K : List UInt8) (S : Nat → List UInt8) (m : Nat) : gotK K S m = wantK K S m m := by
  cases m with
  | zero => simp [gotK, wantK, want0]
  | succ m => exact got_want K S (m + 1) (by omega) m

end Go.Proofs.Qxb6617881a.Pl
