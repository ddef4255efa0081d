/-
  THE PLAIN LAW OF 'isDigits'. No Go in sight.
-/
namespace Go.Proofs.Qxb6617881a.Pl

def isd (c : UInt8) : Bool := decide (48 ≤ c.toNat) && decide (c.toNat ≤ 57)
def dg (l : List UInt8) : Bool := !l.isEmpty && l.all isd

theorem dg_nil : dg [] = false := rfl
theorem dg_pos {l : List UInt8} (h : 0 < l.length) : dg l = l.all isd := by
  cases l with
  | nil => simp at h
  | cons a l => simp [dg]
/-- The cut. -/
theorem dg_cut (l : List UInt8) (i : Nat) (hi : i ≤ l.length) (hl : 0 < l.length) :
    dg l = ((decide (i = 0) || dg (l.take i)) && (decide (i = l.length) || dg (l.drop i))) := by
  have e : l.all isd = ((l.take i).all isd && (l.drop i).all isd) := by
    rw [← List.all_append, List.take_append_drop]
  rw [dg_pos hl, e]
  congr 1
  · by_cases h : i = 0
    · simp [h]
    · rw [dg_pos (by simp; omega)]
      simp [h]
  · by_cases h : i = l.length
    · simp [h]
    · rw [dg_pos (by simp; omega)]
      simp [h]
/-- The insertion. -/
theorem dg_ins (l : List UInt8) (i : Nat) (c : UInt8) : dg (l.take i ++ [c] ++ l.drop i) = ((dg l || decide (l.length = 0)) && isd c) := by
  rw [dg_pos (by simp; omega)]
  have e : l.all isd = ((l.take i).all isd && (l.drop i).all isd) := by
    rw [← List.all_append, List.take_append_drop]
  have e2 : (dg l || decide (l.length = 0)) = l.all isd := by
    cases l with
    | nil => rfl
    | cons a l => simp [dg]
  rw [e2, e]
  simp only [List.all_append, List.all_cons, List.all_nil, Bool.and_true]
  cases (l.take i).all isd <;> cases (l.drop i).all isd <;> simp

/-- lo and hi are the least and the greatest of 255 and of 0 and the first k bytes. -/
def LoHi (l : List UInt8) (k : Nat) (lo hi : Int) : Prop :=
  (∀ j, j < k → lo ≤ ((l.getD j 0).toNat : Int) ∧ ((l.getD j 0).toNat : Int) ≤ hi) ∧ (lo = 255 ∨ ∃ j, j < k ∧ lo = ((l.getD j 0).toNat : Int)) ∧ (hi = 0 ∨ ∃ j, j < k ∧ hi = ((l.getD j 0).toNat : Int))

theorem LoHi.start (l : List UInt8) : LoHi l 0 255 0 := ⟨fun j h => by omega, .inl rfl, .inl rfl⟩
theorem LoHi.next {l : List UInt8} {k : Nat} {lo hi b : Int} (h : LoHi l k lo hi) (hb : b = ((l.getD k 0).toNat : Int)) : LoHi l (k + 1) (if b < lo then b else lo) (if hi < b then b else hi) := by
  obtain ⟨h1, h2, h3⟩ := h
  refine ⟨fun j hj => ?_, ?_, ?_⟩
  · by_cases e : j = k
    · subst e
      rw [← hb]
      constructor <;> split <;> omega
    · have := h1 j (by omega)
      constructor <;> split <;> omega
  · split
    · exact .inr ⟨k, by omega, hb⟩
    · rcases h2 with h2 | ⟨j, hj, h2⟩
      · exact .inl h2
      · exact .inr ⟨j, by omega, h2⟩
  · split
    · exact .inr ⟨k, by omega, hb⟩
    · rcases h3 with h3 | ⟨j, hj, h3⟩
      · exact .inl h3
      · exact .inr ⟨j, by omega, h3⟩
theorem all_getD {l : List UInt8} {p : UInt8 → Bool} : l.all p = true ↔ ∀ j, j < l.length → p (l.getD j 0) = true := by
  rw [List.all_eq_true]
  constructor
  · intro h j hj
    have := h l[j] (List.getElem_mem hj)
    simpa [List.getD, hj] using this
  · intro h x hx
    obtain ⟨j, hj, rfl⟩ := List.mem_iff_getElem.1 hx
    have := h j hj
    simpa [List.getD, hj] using this
theorem LoHi.want {l : List UInt8} {lo hi : Int} (h : LoHi l l.length lo hi) : dg l = (decide (0 < l.length) && decide (48 ≤ lo) && decide (hi ≤ 57)) := by
  obtain ⟨h1, h2, h3⟩ := h
  by_cases hl : 0 < l.length
  · rw [dg_pos hl, Bool.eq_iff_iff, all_getD]
    simp only [isd, Bool.and_eq_true, decide_eq_true_eq]
    constructor
    · intro h
      refine ⟨⟨hl, ?_⟩, ?_⟩
      · rcases h2 with h2 | ⟨j, hj, h2⟩
        · omega
        · have := h j hj
          omega
      · rcases h3 with h3 | ⟨j, hj, h3⟩
        · omega
        · have := h j hj
          omega
    · intro h j hj
      have := h1 j hj
      omega
  · have : l = [] := List.eq_nil_of_length_eq_zero (by omega)
    subst this
    rfl
theorem LoHi.bd {l : List UInt8} {k : Nat} {lo hi : Int} (h : LoHi l k lo hi) : 0 ≤ lo ∧ lo ≤ 255 ∧ 0 ≤ hi ∧ hi ≤ 255 := by
  obtain ⟨_, h2, h3⟩ := h
  have b : ∀ j, (l.getD j 0).toNat < 256 := fun j => (l.getD j 0).toNat_lt
  refine ⟨?_, ?_, ?_, ?_⟩
  · rcases h2 with h2 | ⟨j, _, h2⟩ <;> omega
  · rcases h2 with h2 | ⟨j, _, h2⟩
    · omega
    · have := b j; omega
  · rcases h3 with h3 | ⟨j, _, h3⟩ <;> omega
  · rcases h3 with h3 | ⟨j, _, h3⟩
    · omega
    · have := b j; omega

end Go.Proofs.Qxb6617881a.Pl
