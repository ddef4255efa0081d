/-
  THE PLAIN LAW OF 'isJSONName'. No Go in sight.
-/
namespace Go.Proofs.Qxb6617881a.Pl

/-- The letter that opens a piece: u: it stands behind an underscore. -/
def cap (u : Bool) (c : UInt8) : UInt8 := if u = true ∧ 97 ≤ c.toNat ∧ c.toNat ≤ 122 then c - 32 else c
def camel : Bool → List UInt8 → List UInt8
  | _, [] => []
  | u, c :: cs => if c = 95 then camel true cs else cap u c :: camel false cs

theorem camel_nil (u : Bool) : camel u [] = [] := by cases u <;> rfl
theorem camel_us (u : Bool) (c : UInt8) (cs : List UInt8) (h : c = 95) : camel u (c :: cs) = camel true cs := by
  rw [camel, if_pos h]
theorem camel_cons (u : Bool) (c : UInt8) (cs : List UInt8) (h : c ≠ 95) : camel u (c :: cs) = cap u c :: camel false cs := by
  rw [camel, if_neg h]
theorem camel_le (u : Bool) (l : List UInt8) : (camel u l).length ≤ l.length := by
  induction l generalizing u with
  | nil => rw [camel_nil]; simp
  | cons c cs ih =>
    by_cases h : c = 95
    · rw [camel_us u c cs h]
      have := ih true
      simp; omega
    · rw [camel_cons u c cs h]
      have := ih false
      simp; omega

theorem cap_sub {u : Bool} {c : UInt8} (h : u = true ∧ 97 ≤ c.toNat ∧ c.toNat ≤ 122) : ((cap u c).toNat : Int) = (c.toNat : Int) - 32 := by
  unfold cap
  rw [if_pos h]
  have h1 : (32 : UInt8) ≤ c := by rw [UInt8.le_iff_toNat_le]; simp; omega
  rw [UInt8.toNat_sub_of_le c 32 h1]
  simp
  omega
theorem cap_same {u : Bool} {c : UInt8} (h : ¬ (u = true ∧ 97 ≤ c.toNat ∧ c.toNat ≤ 122)) : cap u c = c := by
  unfold cap
  rw [if_neg h]

theorem drop_cons (N : List UInt8) (i : Nat) (h : i < N.length) : N.drop i = N.getD i 0 :: N.drop (i + 1) := by
  rw [List.drop_eq_getElem_cons h]
  simp [List.getD, h]
theorem ne95 {c : UInt8} (h : c.toNat ≠ 95) : c ≠ 95 := fun e => h (by rw [e]; rfl)
theorem eq95 {c : UInt8} (h : c.toNat = 95) : c = 95 := by
  apply UInt8.toNat_inj.1
  rw [h]; rfl

/-! ### The walk over the name: what is left behind i bytes -/
def Left (K N : List UInt8) (k : Nat) (u : Bool) (i : Nat) : Prop := camel false N = K.take k ++ camel u (N.drop i)

theorem Left.start (K N : List UInt8) : Left K N 0 false 0 := by simp [Left]
theorem Left.us {K N : List UInt8} {k i : Nat} {u : Bool} (h : Left K N k u i) (hi : i < N.length) (hc : (N.getD i 0).toNat = 95) : Left K N k true (i + 1) := by
  unfold Left at h ⊢
  rw [h, drop_cons N i hi, camel_us _ _ _ (eq95 hc)]
theorem Left.hit {K N : List UInt8} {k i : Nat} {u : Bool} (h : Left K N k u i) (hi : i < N.length) (hc : (N.getD i 0).toNat ≠ 95) (hk : k < K.length) (he : K.getD k 0 = cap u (N.getD i 0)) : Left K N (k + 1) false (i + 1) := by
  unfold Left at h ⊢
  rw [h, drop_cons N i hi, camel_cons _ _ _ (ne95 hc), List.take_succ_eq_append_getElem hk]
  have : K[k] = K.getD k 0 := by simp [List.getD, hk]
  rw [this, he]
  simp
theorem Left.full {K N : List UInt8} {k i : Nat} {u : Bool} (h : Left K N k u i) (hi : i < N.length) (hc : (N.getD i 0).toNat ≠ 95) (hk : k = K.length) : decide (K = camel false N) = false := by
  unfold Left at h
  rw [drop_cons N i hi, camel_cons _ _ _ (ne95 hc)] at h
  rw [decide_eq_false_iff_not]
  intro e
  rw [← e, hk] at h
  have := congrArg List.length h
  simp at this
theorem Left.miss {K N : List UInt8} {k i : Nat} {u : Bool} (h : Left K N k u i) (hi : i < N.length) (hc : (N.getD i 0).toNat ≠ 95) (hk : k < K.length) (he : K.getD k 0 ≠ cap u (N.getD i 0)) : decide (K = camel false N) = false := by
  unfold Left at h
  rw [drop_cons N i hi, camel_cons _ _ _ (ne95 hc)] at h
  rw [decide_eq_false_iff_not]
  intro e
  rw [← e] at h
  have := congrArg (fun l : List UInt8 => l.getD k 0) h
  simp only [List.getD_eq_getElem?_getD] at this he
  rw [List.getElem?_append_right (by simp; omega), List.length_take, Nat.min_eq_left (by omega), Nat.sub_self] at this
  exact he this
theorem Left.done {K N : List UInt8} {k : Nat} {u : Bool} (h : Left K N k u N.length) (hk : k ≤ K.length) : decide (K = camel false N) = decide (k = K.length) := by
  unfold Left at h
  rw [List.drop_length, camel_nil, List.append_nil] at h
  rw [h]
  apply decide_eq_decide.2
  constructor
  · intro e
    have := congrArg List.length e
    rw [List.length_take] at this
    omega
  · intro e
    rw [e, List.take_length]

/-! ### The pieces -/
/-- out holds the pieces ahead of start. -/
def Pieces (N out : List UInt8) (first : Bool) (start : Nat) : Prop := camel false N = out ++ camel (!first) (N.drop start) ∧ out.length ≤ start

theorem Pieces.start (N : List UInt8) : Pieces N [] true 0 := ⟨by simp, by simp⟩
theorem camel_plain (l : List UInt8) (m : Nat) (hm : m ≤ l.length) (h : ∀ j, j < m → (l.getD j 0).toNat ≠ 95) : camel false l = l.take m ++ camel false (l.drop m) := by
  induction m generalizing l with
  | zero => simp
  | succ m ih =>
    cases l with
    | nil => simp at hm
    | cons c cs =>
      have hc := h 0 (by omega)
      simp at hc
      rw [camel_cons _ _ _ (ne95 hc), ih cs (by simp at hm; omega) (fun j hj => by have := h (j + 1) (by omega); simpa using this)]
      have e : cap false c = c := cap_same (by simp)
      rw [e]
      simp
theorem camel_end (N : List UInt8) (u : Bool) (e : Nat) (h : e = N.length ∨ (e < N.length ∧ (N.getD e 0).toNat = 95)) : camel u (N.drop e) = camel true (N.drop (e + 1)) := by
  rcases h with h | ⟨h1, h2⟩
  · rw [List.drop_eq_nil_of_le (by omega), List.drop_eq_nil_of_le (by omega), camel_nil, camel_nil]
  · rw [drop_cons N e h1, camel_us _ _ _ (eq95 h2)]
theorem Pieces.bare {N out : List UInt8} {first : Bool} {st : Nat} (h : Pieces N out first st) (hend : st = N.length ∨ (st < N.length ∧ (N.getD st 0).toNat = 95)) : Pieces N out false (st + 1) := by
  refine ⟨?_, by have := h.2; omega⟩
  rw [h.1, camel_end N _ st hend]
  rfl
theorem Pieces.piece {N out : List UInt8} {first : Bool} {st e : Nat} (h : Pieces N out first st) (hse : st < e) (he : e ≤ N.length) (hfree : ∀ j, st ≤ j → j < e → (N.getD j 0).toNat ≠ 95)
    (hend : e = N.length ∨ (e < N.length ∧ (N.getD e 0).toNat = 95)) :
    Pieces N (out ++ [cap (!first) (N.getD st 0)] ++ (N.drop (st + 1)).take (e - (st + 1))) false (e + 1) := by
  refine ⟨?_, ?_⟩
  · rw [h.1, drop_cons N st (by omega), camel_cons _ _ _ (ne95 (hfree st (Nat.le_refl _) hse))]
    rw [camel_plain (N.drop (st + 1)) (e - (st + 1)) (by simp; omega) (fun j hj => by
      have := hfree (st + 1 + j) (by omega) (by omega)
      simpa [List.getD, List.getElem?_drop] using this)]
    rw [List.drop_drop, show st + 1 + (e - (st + 1)) = e by omega, camel_end N false e hend]
    simp
  · have := h.2
    simp
    omega
theorem Pieces.done {N out : List UInt8} {first : Bool} {st : Nat} (h : Pieces N out first st) (hs : N.length < st) : out = camel false N := by
  rw [h.1, List.drop_eq_nil_of_le (by omega), camel_nil, List.append_nil]

/-! ### One underscore put in -/
theorem camel_free (l : List UInt8) (h : ∀ j, j < l.length → (l.getD j 0).toNat ≠ 95) : camel false l = l := by
  have := camel_plain l l.length (Nat.le_refl _) h
  rw [List.take_length, List.drop_length, camel_nil, List.append_nil] at this
  exact this
def upAt (l : List UInt8) (i : Nat) : List UInt8 := if i < l.length then l.set i (cap true (l.getD i 0)) else l
theorem camel_ins (l : List UInt8) (i : Nat) (hi : i ≤ l.length) (h : ∀ j, j < l.length → (l.getD j 0).toNat ≠ 95) : camel false (l.take i ++ [95] ++ l.drop i) = upAt l i := by
  have e1 : camel false (l.take i ++ [95] ++ l.drop i) = l.take i ++ camel false (95 :: l.drop i) := by
    have := camel_plain (l.take i ++ [95] ++ l.drop i) i (by simp; omega) (fun j hj => by
      have := h j (by omega)
      rw [List.append_assoc]
      rw [List.getD_eq_getElem?_getD] at this ⊢
      rw [List.getElem?_append_left (by simp; omega), List.getElem?_take_of_lt hj]
      exact this)
    rw [this]
    have ht : (l.take i ++ [95] ++ l.drop i).take i = l.take i := by
      rw [List.append_assoc, List.take_append_of_le_length (by simp; omega), List.take_take, Nat.min_self]
    have hd : (l.take i ++ [95] ++ l.drop i).drop i = 95 :: l.drop i := by
      rw [List.append_assoc, List.drop_append_of_le_length (by simp; omega)]
      simp
    rw [ht, hd]
  rw [e1, camel_us false 95 _ rfl]
  unfold upAt
  by_cases hl : i < l.length
  · rw [if_pos hl, drop_cons l i hl, camel_cons _ _ _ (ne95 (h i hl)), camel_free (l.drop (i + 1)) (fun j hj => by
      have := h (i + 1 + j) (by simp at hj; omega)
      simpa [List.getD, List.getElem?_drop] using this)]
    rw [List.set_eq_take_append_cons_drop, if_pos hl]
  · rw [if_neg hl, List.drop_eq_nil_of_le (by omega), camel_nil, List.append_nil, List.take_of_length_le (by omega)]

end Go.Proofs.Qxb6617881a.Pl
