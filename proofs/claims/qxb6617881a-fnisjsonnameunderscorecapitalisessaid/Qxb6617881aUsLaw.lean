/-
  THE WALK OF 'FnIsJSONNameUnderscoreCapitalises' (4).
-/
import Derived.Test.Qxb6617881aOwn2
namespace Go.Proofs.Qxb6617881a
open Go.RowKit

set_option maxRecDepth 100000 in
set_option maxHeartbeats 800000 in
theorem us_long (a0 : Option Addr) (n c : Nat) (s : ByteArray) (i : Int) (w : World) (h1 : n ≤ maxLen) (h2 : s.size ≤ maxLen) (h : 1048576 < n + s.size) :
    Calls Try.prog 4 #[.slice a0 n c, .string s, .int .i64 i] w fun e w' => e = .returned (.bool true) ∧ Below w.heap.size w w' := by
  unfold maxLen at h1 h2
  by_cases ha : 1048576 < n
  · go_enter Try.func4, Try.ntmps4
    go_wp2
    go_ret
    exact ⟨rfl, Below.refl _ _⟩
  · by_cases hb : 1048576 < s.size
    · go_enter Try.func4, Try.ntmps4
      go_wp2
      go_ret
      exact ⟨rfl, Below.refl _ _⟩
    · go_enter Try.func4, Try.ntmps4
      go_wp2
      go_ret
      exact ⟨rfl, Below.refl _ _⟩

set_option maxRecDepth 100000 in
set_option maxHeartbeats 800000 in
theorem us_out (a0 : Option Addr) (n c : Nat) (s : ByteArray) (i : Int) (w : World) (h : n + s.size ≤ 1048576) (ho : i < 0 ∨ (s.size : Int) < i) :
    Calls Try.prog 4 #[.slice a0 n c, .string s, .int .i64 i] w fun e w' => e = .returned (.bool true) ∧ Below w.heap.size w w' := by
  by_cases h0 : i < 0
  · go_enter Try.func4, Try.ntmps4
    go_wp2
    go_ret
    exact ⟨rfl, Below.refl _ _⟩
  · have h2 : (s.size : Int) < i := by omega
    clear ho
    go_enter Try.func4, Try.ntmps4
    go_wp2
    go_ret
    exact ⟨rfl, Below.refl _ _⟩

/-- What 'up' is behind its 'if'. -/
def UpRel (W5 : World) (B2 : Nat) (v : Value) (l : List UInt8) (wx : World) : Prop := Owns wx B2 v l ∧ Below B2 W5 wx

theorem upAt_len (l : List UInt8) (i : Nat) : (Pl.upAt l i).length = l.length := by
  unfold Pl.upAt
  split <;> simp

set_option maxRecDepth 100000 in
set_option maxHeartbeats 1600000 in
theorem us_law (a0 : Option Addr) (n c : Nat) (f : Nat → Int) (K : List UInt8) (s : ByteArray) (i : Nat) (w : World) (h : n + s.size ≤ 1048576) (hi : i ≤ s.size) (ha : Came w a0 n c f) (hI : Is f n K) :
    Calls Try.prog 4 #[.slice a0 n c, .string s, .int .i64 i] w fun e w' => e = .returned (.bool true) ∧ Below w.heap.size w w' := by
  have hna := fun w => run_neq_slice_nil_any (P := Try.prog) w 22 5 a0 n c 0 0 Try.underlying22
  obtain ⟨i0, hi0, hz0, hz1, hz2⟩ := info_parts Try.info5
  have HI : Hid _ := hI
  clear hI
  go_enter Try.func4, Try.ntmps4
  go_upto_if 39 with (go_at_call 11; go_in)
  go_cut [0, 7] (fun s0 s5 wd => Copied w n f s0 wd)
  case first =>
    obtain ⟨B, hB⟩ : ∃ B, B = w.heap.size := ⟨_, rfl⟩
    have HB : Hid (B = w.heap.size) := hB
    clear hB
    rcases ha with ⟨rfl, rfl, rfl⟩ | ⟨x, rfl, hc⟩
    · go_wp2
      go_meet
      exact Copied.nil w f
    · have HC : Hid _ := hc
      clear hc
      go_wp2_with (at_make; refine wpList_make_full _ rfl _ _ 22 rfl B 5 i0 (.int .u8 0) 1 Try.underlying22 hi0 hz0 hz1 _ _ _ _ n rfl rfl rfl rfl ?pb2 ?pb3 ?pb4 ?_)
      case pb2 => rw [hz2]; omega
      case pb3 => unfold maxLen; omega
      case pb4 => rw [HB.out]; exact Nat.le_refl _
      intro w1 hown hgrow
      obtain ⟨X, hX⟩ : ∃ X, X = (madeCells #[Value.int IntKind.u8 0] n).toList := ⟨_, rfl⟩
      rw [← hX] at hown
      obtain ⟨hblk, hXl⟩ := made_block hown
      have HBLK : Hid _ := hblk
      have HXL : Hid _ := hXl
      clear hblk hXl hX hown
      go_wp2_with (refine wpList_copy_splice rfl (.tmp 43) (.tmp 44) 22 22 rfl 5 Try.underlying22 Try.size5 _ _ _ _ _ _ rfl rfl w.heap.size 0 X 5 HBLK.out (cellsOf f n) ?pn1 (fun _ => ⟨rfl, x, rfl, src_cells HC.out hgrow⟩) ?pn3 (cellsOf_one _ _) B w ?pn4 ?pn5 ?_)
      case pn1 => rw [cellsOf_len]; exact (Nat.min_self _).symm
      case pn3 => rw [cellsOf_len, HXL.out]; omega
      case pn4 => exact (Below.refl _ _).grown hgrow (by rw [HB.out]; exact Nat.le_refl _) (fun k hk => by cases hk)
      case pn5 => rw [HB.out]; exact Nat.le_refl _
      intro w2 HG hB2
      have HR : Hid _ := Copied.of HXL.out HG (by rw [HB.out] at hB2; exact hB2)
      clear HG HBLK HXL hgrow HC hB2
      go_wp2
      go_meet
      exact HR.out
  case rest =>
  obtain ⟨W1, hW1⟩ : ∃ W1, W1 = wc := ⟨_, rfl⟩
  subst hW1
  obtain ⟨aa, ca, rfl, hRa, -, hB1⟩ := hcut
  have HRa : Hid (Reads W1 aa n f) := hRa
  have HB1 : Hid (Below w.heap.size w W1) := hB1
  obtain ⟨N, hN⟩ : ∃ N, N = s.data.toList := ⟨_, rfl⟩
  have HN : Hid (N = s.data.toList) := hN
  have HLen : Hid (N.length = s.size) := by rw [hN]; exact len_data s
  have HBy : Hid (∀ j (hj : j < s.size), N.getD j 0 = s[j]) := by rw [hN]; exact fun j hj => byte_getD s j hj
  clear hRa hB1 ha hna hN
  go_wp2
  go_loop [8] (fun sj => ∃ k : Nat, k ≤ s.size ∧ sj = .int .i64 k ∧ Hid (∀ j, j < k → (N.getD j 0).toNat ≠ 95)) (fun sj => s.size - (intOf sj).toNat)
  case atStart => exact ⟨0, Nat.zero_le _, rfl, fun j hj => absurd hj (by omega)⟩
  case round =>
    obtain ⟨k, hk, rfl, HF⟩ := hrel
    by_cases hlt : k < s.size
    · by_cases hus : (s[k].toNat : Int) = 95
      · have hub : ((s[k].toNat : Int) == 95) = true := by rw [beq_iff_eq]; exact hus
        clear hus
        go_wp2
        go_ret
        exact ⟨rfl, HB1.out⟩
      · have hub : ((s[k].toNat : Int) == 95) = false := by rw [beq_eq_false_iff_ne]; exact hus
        have HX : Hid (∀ j, j < k + 1 → (N.getD j 0).toNat ≠ 95) := fun j hj => by
          by_cases q : j = k
          · rw [q, HBy.out k hlt]; omega
          · exact HF.out j (by omega)
        clear hus
        go_wp2
        go_round
        case rel => exact ⟨k + 1, by omega, by go_num, HX⟩
        case measure => simp [intOf]; omega
    · have HFree : Hid (∀ j, j < N.length → (N.getD j 0).toNat ≠ 95) := fun j hj => HF.out j (by rw [HLen.out] at hj; omega)
      clear HF
      -- m
      go_wp2_with (at_make; refine mk_own _ rfl _ _ rfl _ _ _ (s.size + 1) rfl rfl (by omega) ?mn W1.heap.size (Nat.le_refl _) W1 (Below.refl _ _) ?_)
      case mn => omega
      intro v2 W2 HO2 HB2
      go_wp2_with (at_builtin; refine app_str _ rfl (.tmp 61) (.tmp 64) rfl W1.heap.size _ [] rfl HO2.out (s.extract 0 i) rfl ?a1 ?a2 W1 HB2.out ?_)
      case a1 => simp; omega
      case a2 => exact HB2.out.size
      intro v3 W3 HO3' HB3
      have HO3 : Hid (Owns W3 W1.heap.size v3 (N.take i)) := Owns.cast HO3'.out (by rw [HN.out]; try simp)
      clear HO2 HB2 HO3'
      go_wp2_with (at_builtin; refine app_one _ rfl (.tmp 66) (.tmp 67) rfl W1.heap.size _ (N.take i) rfl (HO3.out.alloc _) ⟨W3.heap.size, 0, none⟩ _ 95 rfl rfl (cell_one_new _ _ _) ?b1 ?b2 W1 ?b3 ?_)
      case b1 => have := HLen.out; simp; omega
      case b2 => have := HB3.out.size; first | omega | (simp; omega)
      case b3 => exact HB3.out.alloc HB3.out.size _
      intro v4 W4 HO4 HB4
      clear HO3 HB3
      go_wp2_with (at_builtin; refine app_str _ rfl (.tmp 69) (.tmp 72) rfl W1.heap.size _ (N.take i ++ [95]) rfl HO4.out (s.extract i s.size) rfl ?c1 ?c2 W1 HB4.out ?_)
      case c1 => have := HLen.out; simp; omega
      case c2 => exact HB4.out.size
      intro v5 W5 HO5' HB5
      have HO5 : Hid (Owns W5 W1.heap.size v5 (N.take i ++ [95] ++ N.drop i)) := Owns.cast HO5'.out (by rw [HN.out]; simp [List.take_of_length_le])
      clear HO4 HB4 HO5'
      -- up
      go_wp2_with (at_make; refine mk_own _ rfl _ _ rfl _ _ _ s.size rfl rfl rfl ?un W5.heap.size (Nat.le_refl _) W5 (Below.refl _ _) ?_)
      case un => omega
      intro v6 W6 HO6 HB6
      go_wp2_with (at_builtin; refine app_str _ rfl (.tmp 77) (.tmp 78) rfl W5.heap.size _ [] rfl HO6.out s rfl ?d1 ?d2 W5 HB6.out ?_)
      case d1 => simp; omega
      case d2 => exact HB6.out.size
      intro v7 W7 HO7' HB7
      have HO7 : Hid (Owns W7 W5.heap.size v7 N) := Owns.cast HO7'.out (by rw [HN.out]; try simp)
      clear HO6 HB6 HO7'
      obtain ⟨uo, cu, hv7⟩ := Owns.form HO7.out
      obtain ⟨m, hm⟩ : ∃ m, m = N.length := ⟨_, rfl⟩
      have HMs : Hid (m = s.size) := by rw [hm]; exact HLen.out
      rw [← hm] at hv7
      rw [hv7] at HO7 ⊢
      have HM : Hid (m = N.length) := hm
      clear hv7 hm
      have hms1 : m ≤ s.size := Nat.le_of_eq HMs.out
      have hms2 : s.size ≤ m := Nat.le_of_eq HMs.out.symm
      go_upto_region 26 with fail
      go_cut [97] (fun s97 wx => s97 = .bool (decide (i < m ∧ 97 ≤ (N.getD i 0).toNat ∧ (N.getD i 0).toNat ≤ 122)) ∧ W7 = wx)
      case first =>
        by_cases him : i < m
        · obtain ⟨gu, rfl, -, hg1, hg2, hcu⟩ := owns_at HO7.out (by rw [← HM.out]; omega)
          obtain ⟨x, hx⟩ : ∃ x : Int, x = ((N.getD i 0).toNat : Int) := ⟨_, rfl⟩
          have hci := hcu i (by rw [← HM.out]; exact him)
          rw [← hx] at hci
          have HX : Hid _ := hx
          clear hcu hx
          by_cases h97 : 97 ≤ x
          · by_cases h122 : x ≤ 122
            · go_wp2
              go_meet
              exact ⟨val_bool (by have := HX.out; simp only [Bool.true_eq, decide_eq_true_eq]; omega), rfl⟩
            · go_wp2
              go_meet
              exact ⟨val_bool (by have := HX.out; simp only [Bool.false_eq, decide_eq_false_iff_not]; omega), rfl⟩
          · go_wp2
            go_meet
            exact ⟨val_bool (by have := HX.out; simp only [Bool.false_eq, decide_eq_false_iff_not]; omega), rfl⟩
        · go_wp2
          go_meet
          exact ⟨val_bool (by simp only [Bool.false_eq, decide_eq_false_iff_not]; omega), rfl⟩
      case rest =>
      obtain ⟨rfl, rfl⟩ := hcut
      go_upto_if 97 with fail
      go_cut [] (fun wx => UpRel W5 W5.heap.size (.slice uo m cu) (Pl.upAt N i) wx)
      case first =>
        by_cases hup : i < m ∧ 97 ≤ (N.getD i 0).toNat ∧ (N.getD i 0).toNat ≤ 122
        · obtain ⟨him, h97, h122⟩ := hup
          have hdec : decide (i < m ∧ 97 ≤ (N.getD i 0).toNat ∧ (N.getD i 0).toNat ≤ 122) = true := by rw [decide_eq_true_iff]; exact ⟨him, h97, h122⟩
          obtain ⟨db, hdb⟩ : ∃ db, db = decide (i < m ∧ 97 ≤ (N.getD i 0).toNat ∧ (N.getD i 0).toNat ≤ 122) := ⟨_, rfl⟩
          rw [← hdb] at hdec ⊢
          subst hdec
          obtain ⟨gu, rfl, -, hg1, hg2, hcu⟩ := owns_at HO7.out (by rw [← HM.out]; omega)
          have hci := hcu i (by rw [← HM.out]; exact him)
          have hfz := owns_frozen HO7.out HM.out i
          obtain ⟨x, hx⟩ : ∃ x : Int, x = ((N.getD i 0).toNat : Int) := ⟨_, rfl⟩
          have HST : Hid (UpRel W5 W5.heap.size (.slice (some ⟨gu, 0, none⟩) m cu) (Pl.upAt N i) (W7.setCell ⟨gu, i, none⟩ (.int .u8 (x - 32)))) := by
            refine ⟨?_, HB7.out.setCell (by exact hg1) _⟩
            have e := owns_stored HO7.out HM.out i (x - 32) (Pl.cap true (N.getD i 0)) (by rw [Pl.cap_sub ⟨rfl, h97, h122⟩, hx])
            unfold Pl.upAt
            rw [if_pos (by rw [← HM.out]; exact him)]
            exact e
          rw [← hx] at hci
          have hx1 : 97 ≤ x := by omega
          have hx2 : x ≤ 122 := by omega
          clear hcu hx h97 h122 hdb
          go_wp2
          go_meet
          exact HST.out
        · have hdec : decide (i < m ∧ 97 ≤ (N.getD i 0).toNat ∧ (N.getD i 0).toNat ≤ 122) = false := by rw [decide_eq_false_iff_not]; exact hup
          obtain ⟨db, hdb⟩ : ∃ db, db = decide (i < m ∧ 97 ≤ (N.getD i 0).toNat ∧ (N.getD i 0).toNat ≤ 122) := ⟨_, rfl⟩
          rw [← hdb] at hdec ⊢
          subst hdec
          have HST : Hid (UpRel W5 W5.heap.size (.slice uo m cu) (Pl.upAt N i) W7) := by
            refine ⟨Owns.cast HO7.out ?_, HB7.out⟩
            unfold Pl.upAt
            split
            · rw [Pl.cap_same (fun e => hup ⟨by rw [HM.out]; assumption, e.2.1, e.2.2⟩)]
              apply List.ext_getElem
              · simp
              · intro j h1 h2
                rw [List.getElem_set]
                split
                · subst i
                  simp [List.getD, h1]
                · rfl
            · rfl
          clear hdb hup
          go_wp2
          go_meet
          exact HST.out
      case rest =>
      obtain ⟨W8, hW8⟩ : ∃ W8, W8 = wc := ⟨_, rfl⟩
      subst hW8
      obtain ⟨hO8, hB8⟩ := hcut
      have HO58 : Hid (Owns W8 W1.heap.size v5 (N.take i ++ [95] ++ N.drop i)) := owns_later HO5.out hB8 (Nat.le_refl _)
      have hB18 : Below W1.heap.size W1 W8 := HB5.out.trans (hB8.mono HB5.out.size)
      have HR8 : Hid (Reads W8 aa n f) := Reads.later HRa.out hB18 (Nat.le_refl _)
      have HW8 : Hid (Below w.heap.size w W8) := HB1.out.trans (hB18.mono HB1.out.size)
      obtain ⟨g, hg1, hg2⟩ := owns_reads hO8
      have HG1 : Hid (Reads W8 uo m g) := hg1
      have HG2 : Hid (Is g m (Pl.upAt N i)) := hg2
      obtain ⟨t, ht⟩ : ∃ t : ByteArray, t = ⟨(N.take i ++ [95] ++ N.drop i).toArray⟩ := ⟨_, rfl⟩
      have hconv := Owns.conv HO58.out (by simp; omega)
      rw [← ht] at hconv
      obtain ⟨g5, c5, hv5, -⟩ := Owns.some HO58.out (by simp; omega)
      obtain ⟨m5, hm5⟩ : ∃ m5, m5 = (N.take i ++ [95] ++ N.drop i).length := ⟨_, rfl⟩
      rw [← hm5] at hv5
      have HT : Hid (t.data.toList = N.take i ++ [95] ++ N.drop i) := by rw [ht]; rfl
      have HTS : Hid (t.size ≤ 2097152) := by
        show _ ≤ _
        have := HLen.out
        rw [ht, list_size]
        simp
        omega
      clear hm5 ht hg1 hg2 hO8 hB8 hB18 HO5 HB5 HO7 HB7 HB1 HRa HO58
      rw [hv5] at hconv ⊢
      clear hv5
      have HP1 : Hid (decide (K = Pl.camel false s.data.toList) = decide (K = N)) := by show _ = _; rw [← HN.out, Pl.camel_free N HFree.out]
      have HP2 : Hid (decide (K = Pl.camel false t.data.toList) = decide (K = Pl.upAt N i)) := by show _ = _; rw [HT.out, Pl.camel_ins N i (by rw [HLen.out]; exact hi) HFree.out]
      go_wp2_with fail
      refine (zzJson_any aa n ca f K s _ (by omega) HR8.out HI.out (by omega)).mono ?_
      rintro e w' ⟨rfl, rfl⟩
      rw [HP1.out]
      go_wp2_with fail
      refine (zzJson_any aa n ca f K t _ (by omega) HR8.out HI.out HTS.out).mono ?_
      rintro e w'' ⟨rfl, rfl⟩
      rw [HP2.out]
      go_wp2_with fail
      refine (bytesEqStr_any aa n ca f K s _ (by omega) HR8.out HI.out).mono ?_
      rintro e W9 ⟨rfl, hB9⟩
      rw [← HN.out]
      have HR9 : Hid (Reads W9 aa n f) := Reads.later HR8.out hB9 (Nat.le_refl _)
      have HG9 : Hid (Reads W9 uo m g) := Reads.later HG1.out hB9 (Nat.le_refl _)
      have HW9 : Hid (Below w.heap.size w W9) := HW8.out.trans (hB9.mono HW8.out.size)
      obtain ⟨p1, hp1⟩ : ∃ p1, p1 = decide (K = N) := ⟨_, rfl⟩
      rw [← hp1]
      clear hp1 hB9 HP1 HP2 hconv
      go_wp2_with fail
      refine (bytesEq_any aa n ca f K uo m cu g (Pl.upAt N i) _ (by omega) (by omega) HR9.out HI.out HG9.out HG2.out).mono ?_
      rintro e W10 ⟨rfl, hB10⟩
      have HW10 : Hid (Below w.heap.size w W10) := HW9.out.trans (hB10.mono HW9.out.size)
      go_wp2
      go_ret
      exact ⟨ret_bool (by simp), HW10.out⟩

end Go.Proofs.Qxb6617881a
