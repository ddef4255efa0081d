namespace Go.Proofs.Qxb6617875a.Pl

/-- Place i of the n bytes f ends a line. -/
def isEnd (f : Nat → Int) (n i : Nat) : Bool := (f i == 13 || f i == 10) && !(f i == 13 && decide (i + 1 < n) && f (i + 1) == 10)
/-- What the loop has gathered behind k rounds. -/
def gath (f : Nat → Int) (n k : Nat) : List Int := ((List.range k).filter (isEnd f n)).map (fun i : Nat => (i : Int) + 1)
/-- The ends inside the text (not the last). -/
def inner (f : Nat → Int) (n : Nat) : List Int := gath f n (n - 1)
def ends (f : Nat → Int) (n : Nat) : List Int := inner f n ++ [(n : Int)]

theorem gath_zero (f : Nat → Int) (n : Nat) : gath f n 0 = [] := rfl
theorem gath_succ (f : Nat → Int) (n k : Nat) : gath f n (k + 1) = gath f n k ++ (if isEnd f n k = true then [(k : Int) + 1] else []) := by
  unfold gath
  rw [List.range_succ, List.filter_append, List.map_append]
  by_cases h : isEnd f n k = true <;> simp [h]
theorem gath_hit (f : Nat → Int) (n k : Nat) (h : isEnd f n k = true) : gath f n (k + 1) = gath f n k ++ [(k : Int) + 1] := by
  rw [gath_succ, if_pos h]
theorem gath_miss (f : Nat → Int) (n k : Nat) (h : isEnd f n k = false) : gath f n (k + 1) = gath f n k := by
  rw [gath_succ, if_neg (by simp [h]), List.append_nil]
theorem gath_len (f : Nat → Int) (n k : Nat) : (gath f n k).length ≤ k := by
  unfold gath
  rw [List.length_map]
  exact Nat.le_trans (List.length_filter_le _ _) (by simp)
theorem mem_gath {f : Nat → Int} {n k : Nat} {x : Int} (h : x ∈ gath f n k) : ∃ i, i < k ∧ isEnd f n i = true ∧ x = (i : Int) + 1 := by
  unfold gath at h
  obtain ⟨i, hi, rfl⟩ := List.mem_map.1 h
  obtain ⟨h1, h2⟩ := List.mem_filter.1 hi
  exact ⟨i, List.mem_range.1 h1, h2, rfl⟩
theorem gath_mem {f : Nat → Int} {n k i : Nat} (h : i < k) (he : isEnd f n i = true) : (i : Int) + 1 ∈ gath f n k := by
  unfold gath
  exact List.mem_map.2 ⟨i, List.mem_filter.2 ⟨List.mem_range.2 h, he⟩, rfl⟩
theorem gath_last_lt {f : Nat → Int} {n k : Nat} {x : Int} (h : x ∈ gath f n k) : x ≤ k := by
  obtain ⟨i, hi, _, rfl⟩ := mem_gath h
  omega

/-- The last step of lineEnds: the text's own length is added unless it is there. -/
theorem ends_add (f : Nat → Int) (n : Nat) (h : gath f n n = [] ∨ ∃ L x, gath f n n = L ++ [x] ∧ x < (n : Int)) : gath f n n ++ [(n : Int)] = ends f n := by
  unfold ends inner
  cases n with
  | zero => rfl
  | succ m =>
    rw [gath_succ] at h ⊢
    by_cases he : isEnd f (m + 1) m = true
    · rw [if_pos he] at h
      rcases h with h | ⟨L, x, h, hx⟩
      · simp at h
      · have := (List.append_inj' h (by simp)).2
        simp at this
        omega
    · rw [if_neg he]
      simp
theorem ends_keep (f : Nat → Int) (n : Nat) (L : List Int) (x : Int) (h : gath f n n = L ++ [x]) (hx : (n : Int) ≤ x) : gath f n n = ends f n := by
  unfold ends inner
  cases n with
  | zero => simp [gath_zero] at h
  | succ m =>
    have h0 := h
    rw [gath_succ] at h ⊢
    by_cases he : isEnd f (m + 1) m = true
    · rw [if_pos he]
      simp
    · rw [if_neg he] at h
      have hm : x ∈ gath f (m + 1) m := by
        rw [List.append_nil] at h
        rw [h]; simp
      have := gath_last_lt hm
      omega

/-- What the walk is told of an answer of lineEnds: m numbers e. -/
def EndsIs (f : Nat → Int) (n m : Nat) (e : Nat → Int) : Prop := m = (ends f n).length ∧ ∀ j, e j = (ends f n).getD j 0

theorem EndsIs.pos {f : Nat → Int} {n m : Nat} {e : Nat → Int} (h : EndsIs f n m e) : 1 ≤ m := by
  rw [h.1]; simp [ends]
theorem EndsIs.le {f : Nat → Int} {n m : Nat} {e : Nat → Int} (h : EndsIs f n m e) : m ≤ n + 1 := by
  rw [h.1]
  have := gath_len f n (n - 1)
  simp [ends, inner]; omega
theorem EndsIs.last {f : Nat → Int} {n m : Nat} {e : Nat → Int} (h : EndsIs f n m e) : e (m - 1) = n := by
  rw [h.2, h.1]
  simp [ends]
theorem ends_bd {f : Nat → Int} {n : Nat} {x : Int} (h : x ∈ ends f n) : 0 ≤ x ∧ x ≤ n := by
  unfold ends inner at h
  rcases List.mem_append.1 h with h | h
  · obtain ⟨i, hi, _, rfl⟩ := mem_gath h
    omega
  · simp at h
    omega
theorem EndsIs.bd {f : Nat → Int} {n m : Nat} {e : Nat → Int} (h : EndsIs f n m e) (j : Nat) : 0 ≤ e j ∧ e j ≤ n := by
  rw [h.2]
  by_cases hj : j < (ends f n).length
  · rw [List.getD_eq_getElem?_getD, List.getElem?_eq_getElem hj]
    exact ends_bd (List.getElem_mem hj)
  · rw [List.getD_eq_getElem?_getD, List.getElem?_eq_none (by omega)]
    simp

/-! ### Two texts, one behind the other -/
def keeps (fa fb : Nat → Int) (la lb : Nat) : Bool :=
  decide (0 < la) && decide (0 < lb) && (fa (la - 1) == 10 || fa (la - 1) == 13) && !(fa (la - 1) == 13 && fb 0 == 10)
def join (fa fb : Nat → Int) (la : Nat) : Nat → Int := fun i => if i < la then fa i else fb (i - la)

theorem filter_congr' {α : Type} {p q : α → Bool} {l : List α} (h : ∀ x ∈ l, p x = q x) : l.filter p = l.filter q := by
  induction l with
  | nil => rfl
  | cons a l ih =>
    simp only [List.filter_cons, h a (by simp)]
    rw [ih fun x hx => h x (by simp [hx])]

theorem gath_congr {f g : Nat → Int} {n m k : Nat} (h : ∀ i, i < k → isEnd f n i = isEnd g m i) : gath f n k = gath g m k := by
  unfold gath
  rw [filter_congr' fun x hx => h x (List.mem_range.1 hx)]

theorem gath_join (fa fb : Nat → Int) (la lb k : Nat) :
    gath (join fa fb la) (la + lb) (la + k) = gath (join fa fb la) (la + lb) la ++ (gath fb lb k).map (fun x => x + (la : Int)) := by
  induction k with
  | zero => simp [gath_zero]
  | succ k ih =>
    rw [← Nat.add_assoc, gath_succ, ih, gath_succ, List.map_append, List.append_assoc]
    have e : isEnd (join fa fb la) (la + lb) (la + k) = isEnd fb lb k := by
      unfold isEnd join
      rw [if_neg (by omega), if_neg (by omega)]
      have e1 : la + k - la = k := by omega
      have e2 : la + k + 1 - la = k + 1 := by omega
      have e3 : (la + k + 1 < la + lb) = (k + 1 < lb) := by simp; omega
      simp only [e1, e2, e3]
    rw [e]
    by_cases h : isEnd fb lb k = true
    · simp [h]; omega
    · simp [h]

theorem ends_join (fa fb : Nat → Int) (la lb : Nat) :
    ends (join fa fb la) (la + lb) = inner fa la ++ (if keeps fa fb la lb = true then [(la : Int)] else []) ++ (ends fb lb).map (fun x => x + (la : Int)) := by
  cases lb with
  | zero =>
    have hk : keeps fa fb la 0 = false := by simp [keeps]
    rw [hk]
    simp only [ends, inner, Nat.add_zero]
    simp [gath_zero]
    refine gath_congr fun i hi => ?_
    unfold isEnd join
    rw [if_pos (by omega), if_pos (by omega)]
  | succ lb =>
    have h1 : ends (join fa fb la) (la + (lb + 1)) = gath (join fa fb la) (la + (lb + 1)) la ++ (ends fb (lb + 1)).map (fun x => x + (la : Int)) := by
      unfold ends inner
      rw [show la + (lb + 1) - 1 = la + lb by omega, gath_join, show lb + 1 - 1 = lb by omega]
      simp
      omega
    rw [h1]
    congr 1
    cases la with
    | zero => simp [gath_zero, inner, keeps]
    | succ la =>
      rw [gath_succ]
      unfold inner
      congr 1
      · refine gath_congr fun i hi => ?_
        unfold isEnd join
        rw [if_pos (by omega), if_pos (by omega)]
        have e3 : (i + 1 < la + 1 + (lb + 1)) = (i + 1 < la + 1) := by simp; omega
        simp only [e3]
      · have e : isEnd (join fa fb (la + 1)) (la + 1 + (lb + 1)) la = keeps fa fb (la + 1) (lb + 1) := by
          unfold isEnd join keeps
          rw [if_pos (by omega), if_neg (by omega)]
          have e1 : la + 1 - (la + 1) = 0 := by omega
          have e2 : la + 1 - 1 = la := by omega
          have e3 : (la + 1 < la + 1 + (lb + 1)) = True := by simp
          simp only [e1, e2, e3]
          cases h1 : fa la == 13 <;> cases h2 : fa la == 10 <;> simp
        rw [e]
        simp

/-- THE PLAIN LAW of the joined texts. -/
theorem joined {fa fb : Nat → Int} {la lb ma mb mab : Nat} {ea eb eab : Nat → Int} (ha : EndsIs fa la ma ea) (hb : EndsIs fb lb mb eb) (hab : EndsIs (join fa fb la) (la + lb) mab eab) :
    ∃ n, (n = if keeps fa fb la lb = true then ma else ma - 1) ∧ mab = n + mb ∧ (∀ i, i < n → eab i = ea i) ∧ (∀ j, j < mb → eab (n + j) = eb j + la) := by
  refine ⟨_, rfl, ?_, ?_, ?_⟩
  · rw [hab.1, ha.1, hb.1, ends_join]
    unfold ends
    cases hk : keeps fa fb la lb <;> simp <;> omega
  · intro i hi
    rw [hab.2, ha.2, ends_join]
    rw [ha.1] at hi
    unfold ends at hi ⊢
    cases hk : keeps fa fb la lb
    · simp [hk] at hi
      simp [List.getElem?_append, hi]
    · simp [hk] at hi
      simp only [if_true]
      rw [List.append_assoc]
      by_cases h2 : i < (inner fa la).length
      · simp [List.getElem?_append, h2]
      · have : i = (inner fa la).length := by omega
        subst this
        simp
  · intro j hj
    rw [hab.2, hb.2, ends_join]
    rw [hb.1] at hj
    have hl : (inner fa la ++ (if keeps fa fb la lb = true then [(la : Int)] else [])).length = if keeps fa fb la lb = true then ma else ma - 1 := by
      rw [ha.1]; unfold ends
      cases hk : keeps fa fb la lb <;> simp
    rw [← hl, List.getD_eq_getElem?_getD, List.getElem?_append_right (by omega), Nat.add_sub_cancel_left]
    simp [hj]

/-! ### One text, cut into its lines -/
theorem gath_sorted (f : Nat → Int) (n k : Nat) : (gath f n k).Pairwise (· < ·) := by
  unfold gath
  rw [List.pairwise_map]
  refine List.Pairwise.filter _ ?_
  rw [List.pairwise_iff_getElem]
  intro i j hi hj hij
  simp
  omega
theorem ends_sorted (f : Nat → Int) (n : Nat) (hn : 0 < n) : (ends f n).Pairwise (· < ·) := by
  unfold ends inner
  rw [List.pairwise_append]
  refine ⟨gath_sorted f n _, by simp, ?_⟩
  intro a ha b hb
  have := gath_last_lt ha
  simp at hb
  omega
theorem gap {L : List Int} (hs : L.Pairwise (· < ·)) {k : Nat} (hk : k < L.length) {x : Int} (hx : x ∈ L) (hlt : ∀ h : 0 < k, L[k - 1] < x) : L[k] ≤ x := by
  obtain ⟨i, hi, rfl⟩ := List.mem_iff_getElem.1 hx
  rw [List.pairwise_iff_getElem] at hs
  by_cases h : k ≤ i
  · rcases Nat.lt_or_eq_of_le h with h | rfl
    · exact Int.le_of_lt (hs k i hk hi h)
    · exact Int.le_refl _
  · have h1 := hlt (by omega)
    rcases Nat.lt_or_ge i (k - 1) with h2 | h2
    · have := hs i (k - 1) hi (by omega) h2
      omega
    · have e : i = k - 1 := by omega
      subst e
      omega
theorem first_break (f : Nat → Int) (d s : Nat) : ∃ j, s ≤ j ∧ j ≤ s + d ∧ (∀ i, s ≤ i → i < j → f i ≠ 10 ∧ f i ≠ 13) ∧ (j = s + d ∨ f j = 10 ∨ f j = 13) := by
  induction d generalizing s with
  | zero => exact ⟨s, by omega, by omega, by intros; omega, .inl (by omega)⟩
  | succ d ih =>
    by_cases h : f s = 10 ∨ f s = 13
    · exact ⟨s, by omega, by omega, by intros; omega, .inr h⟩
    · obtain ⟨j, h1, h2, h3, h4⟩ := ih (s + 1)
      refine ⟨j, by omega, by omega, ?_, ?_⟩
      · intro i hi hij
        by_cases e : i = s
        · subst e; omega
        · exact h3 i (by omega) hij
      · rcases h4 with h4 | h4
        · left; omega
        · right; exact h4

/-- f[s:e] is one line of the n bytes f, its first break at j. -/
def Seg (f : Nat → Int) (n s e : Nat) (last : Bool) (j : Nat) : Prop :=
  s ≤ j ∧ j ≤ e ∧ (∀ i, s ≤ i → i < j → f i ≠ 10 ∧ f i ≠ 13) ∧
  ((j = e ∧ last = true) ∨ (j + 1 = e ∧ f j = 10) ∨ (j + 1 = e ∧ f j = 13 ∧ (e = n ∨ (e < n ∧ f e ≠ 10))) ∨ (j + 2 = e ∧ f j = 13 ∧ f (j + 1) = 10))

theorem mem_ends {f : Nat → Int} {n i : Nat} (h : i < n) (he : isEnd f n i = true) : (i : Int) + 1 ∈ ends f n := by
  unfold ends inner
  rw [List.mem_append]
  by_cases e : i < n - 1
  · exact .inl (gath_mem e he)
  · right; simp; omega
theorem ends_mem {f : Nat → Int} {n : Nat} {x : Int} (h : x ∈ ends f n) : x = n ∨ ∃ i, i + 1 < n ∧ isEnd f n i = true ∧ x = (i : Int) + 1 := by
  unfold ends inner at h
  rcases List.mem_append.1 h with h | h
  · obtain ⟨i, hi, he, hx⟩ := mem_gath h
    exact .inr ⟨i, by omega, he, hx⟩
  · simp at h; exact .inl h

/-- THE PLAIN LAW of the cuts. -/
theorem cuts {f : Nat → Int} {n m : Nat} {e : Nat → Int} (h : EndsIs f n m e) (hn : 0 < n) {k : Nat} (hk : k < m) {s : Nat} (hs : (k = 0 ∧ s = 0) ∨ (0 < k ∧ (s : Int) = e (k - 1))) :
    ∃ t : Nat, e k = t ∧ s < t ∧ t ≤ n ∧ ∃ j, Seg f n s t (decide (k = m - 1)) j := by
  have hsort := ends_sorted f n hn
  have hL : k < (ends f n).length := by rw [← h.1]; exact hk
  have hb := h.bd k
  have hek : e k = (ends f n)[k] := by rw [h.2]; simp [hL]
  have hmem : e k ∈ ends f n := by rw [hek]; exact List.getElem_mem hL
  have hprev : ∀ hp : 0 < k, (ends f n)[k - 1] = (s : Int) := by
    intro hp
    rcases hs with ⟨h0, _⟩ | ⟨_, h1⟩
    · omega
    · rw [h1, h.2]
      have : k - 1 < (ends f n).length := by omega
      simp [this]
  have hgap : ∀ x ∈ ends f n, (s : Int) < x → e k ≤ x := by
    intro x hx hlt
    rw [hek]
    exact gap hsort hL hx (fun hp => by rw [hprev hp]; exact hlt)
  have hslt : (s : Int) < e k := by
    rcases hs with ⟨h0, h1⟩ | ⟨hp, _⟩
    · subst h1
      rcases ends_mem hmem with h2 | ⟨i, _, _, h2⟩ <;> omega
    · rw [← hprev hp, hek]
      exact (List.pairwise_iff_getElem.1 hsort) (k - 1) k (by omega) hL (by omega)
  obtain ⟨t, ht⟩ : ∃ t : Nat, e k = t := ⟨(e k).toNat, by omega⟩
  refine ⟨t, ht, by omega, by omega, ?_⟩
  obtain ⟨j, h1, h2, h3, h4⟩ := first_break f (t - s) s
  refine ⟨j, h1, by omega, h3, ?_⟩
  rw [ht] at hmem hgap
  rcases Nat.lt_or_eq_of_le (show j ≤ t by omega) with hjt | hjt
  · have h4 : f j = 10 ∨ f j = 13 := by
      rcases h4 with h4 | h4
      · omega
      · exact h4
    right
    by_cases hE : isEnd f n j = true
    · have := hgap _ (mem_ends (by omega) hE) (by omega)
      have ej : j + 1 = t := by omega
      rcases h4 with h4 | h4
      · exact .inl ⟨ej, h4⟩
      · refine .inr (.inl ⟨ej, h4, ?_⟩)
        by_cases en : t = n
        · exact .inl en
        · refine .inr ⟨by omega, ?_⟩
          intro hc
          have hd : j + 1 < n := by omega
          rw [← ej] at hc
          simp [isEnd, h4, hd, hc] at hE
    · have hE' : f j = 13 ∧ j + 1 < n ∧ f (j + 1) = 10 := by
        rcases h4 with h4 | h4
        · simp [isEnd, h4] at hE
        · simp [isEnd, h4] at hE
          exact ⟨h4, hE.1, hE.2⟩
      obtain ⟨a1, a2, a3⟩ := hE'
      have hE2 : isEnd f n (j + 1) = true := by simp [isEnd, a3]
      have := hgap _ (mem_ends a2 hE2) (by omega)
      refine .inr (.inr ⟨?_, a1, a3⟩)
      have hne : t ≠ j + 1 := by
        intro ht2
        rcases ends_mem hmem with h5 | ⟨i, _, h6, h7⟩
        · omega
        · have : i = j := by omega
          subst this
          exact hE h6
      omega
  · left
    refine ⟨hjt, ?_⟩
    rw [decide_eq_true_iff]
    rcases ends_mem hmem with h5 | ⟨i, h5, h6, h7⟩
    · have hlast := h.last
      by_cases hkm : k = m - 1
      · exact hkm
      · exfalso
        have hml : m - 1 < (ends f n).length := by rw [← h.1]; omega
        have := (List.pairwise_iff_getElem.1 hsort) k (m - 1) hL hml (by omega)
        have e2 : e (m - 1) = (ends f n)[m - 1] := by rw [h.2]; simp [hml]
        omega
    · exfalso
      have hi := h3 i (by omega) (by omega)
      simp [isEnd, hi.1, hi.2] at h6

end Go.Proofs.Qxb6617875a.Pl
