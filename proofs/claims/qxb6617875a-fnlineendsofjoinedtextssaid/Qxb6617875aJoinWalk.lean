/-
  THE WALK OF 'FnLineEndsOfJoinedTexts' (4).
-/
import Derived.Test.Qxb6617875aCopy
import Derived.Deep.QuietTactic
import Derived.BigQuiet
import Derived.Deep.DeepCutAuto
namespace Go.Proofs.Qxb6617875a
open Go.RowKit

/-- A slice of bytes as it came in. -/
def Came (w : World) (a : Option Addr) (n c : Nat) (f : Nat → Int) : Prop :=
  (a = none ∧ n = 0 ∧ c = 0) ∨ ∃ x, a = some x ∧ ∀ i, i < n → w.cell? (x.add i) = some (.int .u8 (f i))

/-- What a copy of n bytes f is: the value s, in the world wc; w: as it was before. -/
def Copied (w : World) (n : Nat) (f : Nat → Int) (s : Value) (wc : World) : Prop :=
  ∃ a c, s = .slice a n c ∧ Reads wc a n f ∧ (a = none → n = 0 ∧ c = 0) ∧ Below w.heap.size w wc

theorem Came.later {w w' : World} {a : Option Addr} {n c : Nat} {f : Nat → Int} (h : Came w a n c f) (hb : Below w.heap.size w w') : Came w' a n c f := by
  rcases h with h | ⟨x, rfl, h⟩
  · exact .inl h
  · refine .inr ⟨x, rfl, fun i hi => ?_⟩
    rw [hb.cell (World.block_lt_of_cell? w _ (h i hi))]
    exact h i hi

theorem Reads.src {w : World} {a : Option Addr} {n : Nat} {f : Nat → Int} (h : Reads w a n f) : ∀ ad, a = some ad → ∀ j u, (cellsOf f n)[j]? = some u → w.cell? (ad.add j) = some u := by
  intro ad had j u hu
  have hj : j < n := by
    have := (List.getElem?_eq_some_iff.1 hu).1
    rwa [cellsOf_len] at this
  rw [cellsOf_get _ _ _ hj] at hu
  rcases h with h | ⟨b, off, rfl, _, h⟩
  · omega
  · obtain rfl := Option.some.inj had
    rw [Addr.add_lit, ← hu]
    exact h j hj

theorem joined_reads {w : World} {B g la lb c : Nat} {fa fb : Nat → Int} (h : w.ownsRow B 5 1 (.slice (some ⟨g, 0, none⟩) (la + lb) c) (la + lb) (cellsOf fa la ++ cellsOf fb lb)) :
    Reads w (some ⟨g, 0, none⟩) (la + lb) (Pl.join fa fb la) := by
  have hlt := (h.lt g rfl).2
  refine .inr ⟨g, 0, rfl, hlt, fun j hj => ?_⟩
  rw [Nat.zero_add, h.cellAt j (by omega)]
  unfold Pl.join
  by_cases hja : j < la
  · rw [if_pos hja, List.getElem?_append_left (by rw [cellsOf_len]; exact hja), cellsOf_get _ _ _ hja]
  · rw [if_neg hja, List.getElem?_append_right (by rw [cellsOf_len]; omega), cellsOf_len, cellsOf_get _ _ _ (by omega)]

set_option maxRecDepth 100000 in
set_option maxHeartbeats 400000 in
theorem join_long (a0 a1 : Option Addr) (la ca lb cb : Nat) (w : World) (h1 : la ≤ maxLen) (h2 : lb ≤ maxLen) (h : 524288 < la ∨ 524288 < lb) :
    Calls Try.prog 4 #[.slice a0 la ca, .slice a1 lb cb] w fun e w' => e = .returned (.bool true) ∧ Below w.heap.size w w' := by
  unfold maxLen at h1 h2
  by_cases ha : 524288 < la
  · by_cases hb : 1048576 < la
    · go_enter Try.func4, Try.ntmps4
      go_wp2
      go_ret
      exact ⟨rfl, Below.refl _ _⟩
    · by_cases hc : 1048576 < lb
      · go_enter Try.func4, Try.ntmps4
        go_wp2
        go_ret
        exact ⟨rfl, Below.refl _ _⟩
      · by_cases hd : 1048576 < la + lb
        · go_enter Try.func4, Try.ntmps4
          go_wp2
          go_ret
          exact ⟨rfl, Below.refl _ _⟩
        · go_enter Try.func4, Try.ntmps4
          go_wp2
          go_ret
          exact ⟨rfl, Below.refl _ _⟩
  · by_cases hc : 1048576 < lb
    · go_enter Try.func4, Try.ntmps4
      go_wp2
      go_ret
      exact ⟨rfl, Below.refl _ _⟩
    · by_cases hd : 1048576 < la + lb
      · go_enter Try.func4, Try.ntmps4
        go_wp2
        go_ret
        exact ⟨rfl, Below.refl _ _⟩
      · have hb : 524288 < lb := by omega
        go_enter Try.func4, Try.ntmps4
        go_wp2
        go_ret
        exact ⟨rfl, Below.refl _ _⟩

theorem val_bool {a b : Bool} (h : a = b) : Value.bool a = .bool b := by rw [h]
theorem val_int {k : IntKind} {a b : Int} (h : a = b) : Value.int k a = .int k b := by rw [h]
theorem Copied.nil (w : World) (f : Nat → Int) : Copied w 0 f (.slice none 0 0) w := ⟨none, 0, rfl, .inl rfl, fun _ => ⟨rfl, rfl⟩, Below.refl _ _⟩
theorem Copied.of {w w2 : World} {n : Nat} {f : Nat → Int} {g : Nat} {xs : List Value} (hx : xs.length = n) (h : Hid (w2.heap[g]? = some (.cells (splice xs 0 (cellsOf f n)).toArray 5 (0, 0)))) (hb : Below w.heap.size w w2) :
    Copied w n f (.slice (some ⟨g, 0, none⟩) n n) w2 := ⟨_, _, rfl, copied hx h, fun e => by simp at e, hb⟩

set_option maxRecDepth 100000 in
set_option maxHeartbeats 1600000 in
theorem join_short (a0 a1 : Option Addr) (la ca lb cb : Nat) (fa fb : Nat → Int) (w : World) (h1 : la ≤ 524288) (h2 : lb ≤ 524288) (ha : Came w a0 la ca fa) (hb : Came w a1 lb cb fb) :
    Calls Try.prog 4 #[.slice a0 la ca, .slice a1 lb cb] w fun e w' => e = .returned (.bool true) ∧ Below w.heap.size w w' := by
  have hna := fun w => run_neq_slice_nil_any (P := Try.prog) w 22 5 a0 la ca 0 0 Try.underlying22
  have hnb := fun w => run_neq_slice_nil_any (P := Try.prog) w 22 5 a1 lb cb 0 0 Try.underlying22
  obtain ⟨i0, hi, hz0, hz1, hz2⟩ := info_parts Try.info5
  go_enter Try.func4, Try.ntmps4
  go_upto_if 27 with (go_at_call 10; go_in)
  go_cut [0, 5] (fun s0 s5 wc => Copied w la fa s0 wc)
  case first =>
    obtain ⟨B, hB⟩ : ∃ B, B = w.heap.size := ⟨_, rfl⟩
    have HB : Hid (B = w.heap.size) := hB
    clear hB
    rcases ha with ⟨rfl, rfl, rfl⟩ | ⟨x, rfl, hc⟩
    · go_wp2
      go_meet
      exact Copied.nil w fa
    · have HC : Hid _ := hc
      clear hc
      go_wp2_with (at_make; refine wpList_make_full _ rfl _ _ 22 rfl B 5 i0 (.int .u8 0) 1 Try.underlying22 hi hz0 hz1 _ _ _ _ la rfl rfl rfl rfl ?pb2 ?pb3 ?pb4 ?_)
      case pb2 => rw [hz2]; omega
      case pb3 => unfold maxLen; omega
      case pb4 => rw [HB.out]; exact Nat.le_refl _
      intro w1 hown hgrow
      obtain ⟨X, hX⟩ : ∃ X, X = (madeCells #[Value.int IntKind.u8 0] la).toList := ⟨_, rfl⟩
      rw [← hX] at hown
      obtain ⟨hblk, hXl⟩ := made_block hown
      have HBLK : Hid _ := hblk
      have HXL : Hid _ := hXl
      clear hblk hXl hX hown
      go_wp2_with (refine wpList_copy_splice rfl (.tmp 31) (.tmp 32) 22 22 rfl 5 Try.underlying22 Try.size5 _ _ _ _ _ _ rfl rfl w.heap.size 0 X 5 HBLK.out (cellsOf fa la) ?pn1 (fun _ => ⟨rfl, x, rfl, src_cells HC.out hgrow⟩) ?pn3 (cellsOf_one _ _) B w ?pn4 ?pn5 ?_)
      case pn1 => rw [cellsOf_len]; exact (Nat.min_self _).symm
      case pn3 => rw [cellsOf_len, HXL.out]; omega
      case pn4 => exact (Below.refl _ _).grown hgrow (by rw [HB.out]; exact Nat.le_refl _) (fun k hk => by cases hk)
      case pn5 => rw [HB.out]; exact Nat.le_refl _
      intro w2 HG hB2
      have HR : Hid _ := Copied.of HXL.out HG (by rw [HB.out] at hB2; exact hB2)
      clear HG HBLK HXL hgrow HC hB2
      go_wp2
      go_meet
      exact HR.out
  case rest =>
  obtain ⟨W1, hW1⟩ : ∃ W1, W1 = wc := ⟨_, rfl⟩
  subst hW1
  obtain ⟨aa, ca2, rfl, hRa, hna2, hB1⟩ := hcut
  have hb1 := hb.later hB1
  have HRa : Hid _ := hRa
  have HNa : Hid _ := hna2
  have HB1 : Hid _ := hB1
  clear hRa hna2 hB1 ha hb hna
  go_upto_if 36 with fail
  go_cut [1, 6] (fun s0 s5 wc => Copied W1 lb fb s0 wc)
  case first =>
    obtain ⟨B, hB⟩ : ∃ B, B = W1.heap.size := ⟨_, rfl⟩
    have HB : Hid (B = W1.heap.size) := hB
    clear hB
    rcases hb1 with ⟨rfl, rfl, rfl⟩ | ⟨x, rfl, hc⟩
    · go_wp2
      go_meet
      exact Copied.nil W1 fb
    · have HC : Hid _ := hc
      clear hc
      go_wp2_with (at_make; refine wpList_make_full _ rfl _ _ 22 rfl B 5 i0 (.int .u8 0) 1 Try.underlying22 hi hz0 hz1 _ _ _ _ lb rfl rfl rfl rfl ?qb2 ?qb3 ?qb4 ?_)
      case qb2 => rw [hz2]; omega
      case qb3 => unfold maxLen; omega
      case qb4 => rw [HB.out]; exact Nat.le_refl _
      intro w1 hown hgrow
      obtain ⟨X, hX⟩ : ∃ X, X = (madeCells #[Value.int IntKind.u8 0] lb).toList := ⟨_, rfl⟩
      rw [← hX] at hown
      obtain ⟨hblk, hXl⟩ := made_block hown
      have HBLK : Hid _ := hblk
      have HXL : Hid _ := hXl
      clear hblk hXl hX hown
      go_wp2_with (refine wpList_copy_splice rfl (.tmp 40) (.tmp 41) 22 22 rfl 5 Try.underlying22 Try.size5 _ _ _ _ _ _ rfl rfl W1.heap.size 0 X 5 HBLK.out (cellsOf fb lb) ?qn1 (fun _ => ⟨rfl, x, rfl, src_cells HC.out hgrow⟩) ?qn3 (cellsOf_one _ _) B W1 ?qn4 ?qn5 ?_)
      case qn1 => rw [cellsOf_len]; exact (Nat.min_self _).symm
      case qn3 => rw [cellsOf_len, HXL.out]; omega
      case qn4 => exact (Below.refl _ _).grown hgrow (by rw [HB.out]; exact Nat.le_refl _) (fun k hk => by cases hk)
      case qn5 => rw [HB.out]; exact Nat.le_refl _
      intro w2 HG hB2
      have HR : Hid _ := Copied.of HXL.out HG (by rw [HB.out] at hB2; exact hB2)
      clear HG HBLK HXL hgrow HC hB2
      go_wp2
      go_meet
      exact HR.out
  case rest =>
  obtain ⟨W2, hW2⟩ : ∃ W2, W2 = wc := ⟨_, rfl⟩
  subst hW2
  obtain ⟨ab, cb2, rfl, hRb, hnb2, hB2⟩ := hcut
  have HB2 : Hid (Below w.heap.size w W2) := HB1.out.trans (hB2.mono HB1.out.size)
  have HRa2 : Hid (Reads W2 aa la fa) := Reads.later HRa.out hB2 (Nat.le_refl _)
  have HRb2 : Hid (Reads W2 ab lb fb) := hRb
  have HNb : Hid _ := hnb2
  clear HRa hRb hnb2 hB2 HB1 hb1 hnb
  -- ab := make([]byte, 0, len(a)+len(b))
  go_wp2_with (at_make; refine wpList_make_own _ rfl _ _ 22 rfl W2.heap.size 5 i0 (.int .u8 0) 1 Try.underlying22 hi hz0 hz1 _ _ _ (la + lb) rfl rfl ?mC ?mb2 ?mb3 ?mb4 ?_)
  case mC => omega
  case mb2 => rw [hz2]; omega
  case mb3 => unfold maxLen; omega
  case mb4 => exact Nat.le_refl _
  intro W3 hown3 hgrow3
  obtain ⟨G, hG⟩ : ∃ G, G = W2.heap.size := ⟨_, rfl⟩
  have hb3 : Below G W2 W3 := (Below.refl _ _).grown hgrow3 (by rw [hG]; exact Nat.le_refl _) (fun k hk => by cases hk)
  rw [← hG] at hown3 ⊢
  have HG : Hid _ := hG
  have HO3 : Hid _ := hown3
  have HB3 : Hid _ := hb3
  clear hown3 hgrow3 hG hb3
  go_wp2_with (at_builtin; refine wpList_append_fits_any _ rfl (.tmp 50) (.tmp 51) 22 rfl G 5 i0 1 Try.underlying22 hi hz1 G 0 (la + lb) [] rfl HO3.out aa la ca2 (cellsOf fa la) rfl (by rw [cellsOf_len, Nat.mul_one]) HNa.out ?ac (cellsOf_one _ _) (by omega) ?_)
  case ac => exact Reads.src (Reads.later HRa2.out HB3.out (Nat.le_of_eq HG.out.symm))
  intro W4 hown4 hgrow4
  have HB4 : Hid (Below G W2 W4) := HB3.out.grown hgrow4 (by rw [HG.out]; exact HB3.out.size) (fun k hk => by cases hk; exact Nat.le_refl _)
  have HO4 : Hid _ := hown4
  clear hown4 hgrow4 HO3 HB3
  go_wp2_with (at_builtin; refine wpList_append_fits_any _ rfl (.tmp 53) (.tmp 54) 22 rfl G 5 i0 1 Try.underlying22 hi hz1 G la (la + lb) (cellsOf fa la) rfl HO4.out ab lb cb2 (cellsOf fb lb) rfl (by rw [cellsOf_len, Nat.mul_one]) HNb.out ?bc (cellsOf_one _ _) (by omega) ?_)
  case bc => exact Reads.src (Reads.later HRb2.out HB4.out (Nat.le_of_eq HG.out.symm))
  intro W5 hown5 hgrow5
  have HB5 : Hid (Below G W2 W5) := HB4.out.grown hgrow5 (by rw [HG.out]; exact HB4.out.size) (fun k hk => by cases hk; exact Nat.le_refl _)
  have HR5 : Hid (Reads W5 (some ⟨G, 0, none⟩) (la + lb) (Pl.join fa fb la)) := joined_reads hown5
  have HRa5 : Hid (Reads W5 aa la fa) := Reads.later HRa2.out HB5.out (Nat.le_of_eq HG.out.symm)
  have HRb5 : Hid (Reads W5 ab lb fb) := Reads.later HRb2.out HB5.out (Nat.le_of_eq HG.out.symm)
  have HW5 : Hid (Below w.heap.size w W5) := HB2.out.trans (HB5.out.mono (by rw [HG.out]; exact HB2.out.size))
  clear hown5 hgrow5 HO4 HB4 HRa2 HRb2 HB5 HG HB2 HNa HNb hi hz0 hz1 hz2
  -- the three calls
  go_wp2_with fail
  refine (zzEnds_any aa la ca2 fa _ (by omega) HRa5.out).mono ?_
  rintro e W6 ⟨gA, ma, cA, ea, rfl, -, hgA, hcA, hb6, hEa⟩
  have HRb6 : Hid (Reads W6 ab lb fb) := Reads.later HRb5.out hb6 (Nat.le_refl _)
  have HR6 : Hid (Reads W6 (some ⟨G, 0, none⟩) (la + lb) (Pl.join fa fb la)) := Reads.later HR5.out hb6 (Nat.le_refl _)
  have HRa6 : Hid (Reads W6 aa la fa) := Reads.later HRa5.out hb6 (Nat.le_refl _)
  have HW6 : Hid (Below w.heap.size w W6) := HW5.out.trans (hb6.mono HW5.out.size)
  have HCA : Hid _ := hcA
  have HEA : Hid _ := hEa
  clear hcA hEa hb6 HRb5 HR5 HRa5 HW5
  go_wp2_with fail
  refine (zzEnds_any ab lb cb2 fb _ (by omega) HRb6.out).mono ?_
  rintro e W7 ⟨gB, mb, cB, eb, rfl, -, hgB, hcB, hb7, hEb⟩
  have HRb7 : Hid (Reads W7 ab lb fb) := Reads.later HRb6.out hb7 (Nat.le_refl _)
  have HR7 : Hid (Reads W7 (some ⟨G, 0, none⟩) (la + lb) (Pl.join fa fb la)) := Reads.later HR6.out hb7 (Nat.le_refl _)
  have HRa7 : Hid (Reads W7 aa la fa) := Reads.later HRa6.out hb7 (Nat.le_refl _)
  have HW7 : Hid (Below w.heap.size w W7) := HW6.out.trans (hb7.mono HW6.out.size)
  have HCA7 : Hid (∀ j, j < ma → W7.cell? ⟨gA, j, none⟩ = some (.int .i64 (ea j))) := fun j hj => (hb7.cell (p := ⟨gA, j, none⟩) hgA).trans (HCA.out j hj)
  have hgA7 : gA < W7.heap.size := Nat.lt_of_lt_of_le hgA hb7.size
  have HCB : Hid _ := hcB
  have HEB : Hid _ := hEb
  clear hcB hEb hb7 HRb6 HR6 HRa6 HW6 HCA hgA
  go_wp2_with fail
  refine (zzEnds_any (some ⟨G, 0, none⟩) (la + lb) (la + lb) (Pl.join fa fb la) _ (by omega) HR7.out).mono ?_
  rintro e W8 ⟨gC, mc, cC, ec, rfl, -, hgC, hcC, hb8, hEc⟩
  have HRb8 : Hid (Reads W8 ab lb fb) := Reads.later HRb7.out hb8 (Nat.le_refl _)
  have HRa8 : Hid (Reads W8 aa la fa) := Reads.later HRa7.out hb8 (Nat.le_refl _)
  have HW8 : Hid (Below w.heap.size w W8) := HW7.out.trans (hb8.mono HW7.out.size)
  have HCA8 : Hid (∀ j, j < ma → W8.cell? ⟨gA, j, none⟩ = some (.int .i64 (ea j))) := fun j hj => (hb8.cell (p := ⟨gA, j, none⟩) hgA7).trans (HCA7.out j hj)
  have HCB8 : Hid (∀ j, j < mb → W8.cell? ⟨gB, j, none⟩ = some (.int .i64 (eb j))) := fun j hj => (hb8.cell (p := ⟨gB, j, none⟩) hgB).trans (HCB.out j hj)
  have hgA8 : gA < W8.heap.size := Nat.lt_of_lt_of_le hgA7 hb8.size
  have hgB8 : gB < W8.heap.size := Nat.lt_of_lt_of_le hgB hb8.size
  have HCC : Hid _ := hcC
  have HEC : Hid _ := hEc
  clear hcC hEc hb8 HRb7 HR7 HRa7 HW7 HCA7 HCB hgA7 hgB
  have hma := Pl.EndsIs.pos HEA.out
  have hmb := Pl.EndsIs.pos HEB.out
  have hmc := Pl.EndsIs.pos HEC.out
  have hma2 := Pl.EndsIs.le HEA.out
  have hmb2 := Pl.EndsIs.le HEB.out
  have hmc2 := Pl.EndsIs.le HEC.out
  have ema : ((ma : Int) == 0) = false := by simp; omega
  have emb : ((mb : Int) == 0) = false := by simp; omega
  have emc : ((mc : Int) == 0) = false := by simp; omega
  go_upto_region 24 with fail
  go_cut [82] (fun s82 wx => s82 = .bool (decide (0 < la ∧ 0 < lb)) ∧ W8 = wx)
  case first =>
    by_cases hla : 0 < la
    · by_cases hlb : 0 < lb
      · go_wp2
        go_meet
        exact ⟨val_bool (by simp [hla, hlb]), rfl⟩
      · go_wp2
        go_meet
        exact ⟨val_bool (by simp [hlb]), rfl⟩
    · go_wp2
      go_meet
      exact ⟨val_bool (by simp [hla]), rfl⟩
  case rest =>
  obtain ⟨rfl, rfl⟩ := hcut
  go_upto_if 82 with fail
  go_cut [11, 12] (fun s11 s12 wx => s11 = .bool (Pl.keeps fa fb la lb) ∧ W8 = wx)
  case first =>
    by_cases hab : 0 < la ∧ 0 < lb
    · obtain ⟨hla, hlb⟩ := hab
      rcases HRa8.out with h0 | ⟨bA, oA, rfl, _, hcA⟩
      · omega
      rcases HRb8.out with h0 | ⟨bB, oB, rfl, _, hcB⟩
      · omega
      have hc1 := hcA (la - 1) (by omega)
      have hc2 := hcB 0 (by omega)
      clear hcA hcB
      have hdec : decide (0 < la ∧ 0 < lb) = true := by simp [hla, hlb]
      simp only [Nat.add_zero] at hc2
      by_cases e10 : fa (la - 1) = 10
      · have HK : Hid (Pl.keeps fa fb la lb = true) := by show _ = _; simp [Pl.keeps, hla, hlb, e10]
        go_wp2
        go_meet
        exact ⟨val_bool (by rw [HK.out]), rfl⟩
      · have e10' : (fa (la - 1) == 10) = false := by simpa using e10
        by_cases e13 : fa (la - 1) = 13
        · by_cases b10 : fb 0 = 10
          · have HK : Hid (Pl.keeps fa fb la lb = false) := by show _ = _; simp [Pl.keeps, e13, b10]
            go_wp2
            go_meet
            exact ⟨val_bool (by rw [HK.out]), rfl⟩
          · have b10' : (fb 0 == 10) = false := by simpa using b10
            have HK : Hid (Pl.keeps fa fb la lb = true) := by show _ = _; simp [Pl.keeps, hla, hlb, e13, b10]
            go_wp2
            go_meet
            exact ⟨val_bool (by rw [HK.out]), rfl⟩
        · have e13' : (fa (la - 1) == 13) = false := by simpa using e13
          have HK : Hid (Pl.keeps fa fb la lb = false) := by show _ = _; simp [Pl.keeps, e10, e13]
          go_wp2
          go_meet
          exact ⟨val_bool (by rw [HK.out]), rfl⟩
    · have HK : Hid (Pl.keeps fa fb la lb = false) := by
        show _ = _
        by_cases h : 0 < la
        · simp [Pl.keeps, show ¬ 0 < lb by omega]
        · simp [Pl.keeps, h]
      have hdec : decide (0 < la ∧ 0 < lb) = false := by simpa using hab
      go_wp2
      go_meet
      exact ⟨val_bool (by rw [HK.out]), rfl⟩
  case rest =>
  obtain ⟨rfl, rfl⟩ := hcut
  obtain ⟨n, hn, hnm, hA, hB⟩ := Pl.joined HEA.out HEB.out HEC.out
  obtain ⟨kp, hkp⟩ : ∃ kp, kp = Pl.keeps fa fb la lb := ⟨_, rfl⟩
  rw [← hkp] at hn ⊢
  clear hkp
  have hlast := Pl.EndsIs.last HEC.out
  have HN : Hid _ := hn
  have HM : Hid _ := hnm
  have HA : Hid _ := hA
  have HBB : Hid _ := hB
  have HL : Hid _ := hlast
  have hn1 : n ≤ ma := by rw [hn]; split <;> omega
  have hn2 : n + mb ≤ mc := Nat.le_of_eq hnm.symm
  have hn3 : mc ≤ n + mb := Nat.le_of_eq hnm
  clear hn hnm hA hB hlast
  go_upto_if 105 with fail
  go_cut [13] (fun s13 wx => s13 = .int .i64 n ∧ W8 = wx)
  case first =>
    cases kp
    · have e : Hid (n = ma - 1) := HN.out
      go_wp2
      go_meet
      exact ⟨val_int (by have := e.out; omega), rfl⟩
    · have e : Hid (n = ma) := HN.out
      go_wp2
      go_meet
      exact ⟨by rw [e.out], rfl⟩
  case rest =>
  obtain ⟨rfl, rfl⟩ := hcut
  go_wp2
  go_loopw [14] (fun i wr => ∃ k : Nat, k ≤ n ∧ i = .int .i64 k ∧ Below W8.heap.size W8 wr) (fun i _ => n - (intOf i).toNat)
  case atStart => exact ⟨0, Nat.zero_le _, rfl, Below.refl _ _⟩
  case round =>
    obtain ⟨k, hk, rfl, hbr⟩ := hrel
    by_cases hlt : k < n
    · have hc1 : wr.cell? ⟨gC, k, none⟩ = some (.int .i64 (ec k)) := (hbr.cell (p := ⟨gC, k, none⟩) hgC).trans (HCC.out k (by omega))
      have hc2 : wr.cell? ⟨gA, k, none⟩ = some (.int .i64 (ea k)) := (hbr.cell (p := ⟨gA, k, none⟩) hgA8).trans (HCA8.out k (by omega))
      rw [HA.out k hlt] at hc1
      have hi1 : (k : Int) < (mc : Int) := by omega
      have hi2 : (k : Int) < (ma : Int) := by omega
      go_wp2
      go_quiet (fail)
      go_wp2
      go_roundw
      case rel => exact ⟨k + 1, by omega, by go_num, below_drewN hbr _⟩
      case measure => simp [intOf]; omega
    · obtain rfl : k = n := by omega
      have HBR : Hid _ := hbr
      clear hbr hlt hk
      go_wp2
      go_loopw [15] (fun i wr => ∃ k : Nat, k ≤ mb ∧ i = .int .i64 k ∧ Below W8.heap.size W8 wr) (fun i _ => mb - (intOf i).toNat)
      case atStart => exact ⟨0, Nat.zero_le _, rfl, HBR.out⟩
      case round =>
        obtain ⟨q, hq, rfl, hbr⟩ := hrel
        by_cases hlt : q < mb
        · have hc1 : wr.cell? ⟨gC, k + q, none⟩ = some (.int .i64 (ec (k + q))) := (hbr.cell (p := ⟨gC, k + q, none⟩) hgC).trans (HCC.out (k + q) (by omega))
          have hc2 : wr.cell? ⟨gB, q, none⟩ = some (.int .i64 (eb q)) := (hbr.cell (p := ⟨gB, q, none⟩) hgB8).trans (HCB8.out q hlt)
          rw [HBB.out q hlt] at hc1
          have hi1 : (k : Int) + (q : Int) < (mc : Int) := by omega
          have hi2 : (q : Int) < (mb : Int) := by omega
          obtain ⟨hd1, hd2⟩ := Pl.EndsIs.bd HEB.out q
          go_wp2
          go_quiet (fail)
          go_wp2
          go_roundw
          case rel => exact ⟨q + 1, by omega, by go_num, below_drewN hbr _⟩
          case measure => simp [intOf]; omega
        · have hc1 : wr.cell? ⟨gC, mc - 1, none⟩ = some (.int .i64 (ec (mc - 1))) := (hbr.cell (p := ⟨gC, mc - 1, none⟩) hgC).trans (HCC.out (mc - 1) (by omega))
          rw [HL.out] at hc1
          go_wp2
          go_ret
          exact ⟨ret_bool (by simp), HW8.out.trans (hbr.mono HW8.out.size)⟩

end Go.Proofs.Qxb6617875a
