/-
  THE WALK OF 'FnIsDigitsCutsAndInsertions' (5).
-/
import Derived.Test.Qxb6617881aDigWalk
namespace Go.Proofs.Qxb6617881a
open Go.RowKit

set_option maxRecDepth 100000 in
set_option maxHeartbeats 400000 in
theorem dig_long (s : ByteArray) (i c : Int) (w : World) (h1 : s.size ≤ maxLen) (h : 1048576 < s.size) :
    Calls Try.prog 5 #[.string s, .int .i64 i, .int .u8 c] w fun e w' => e = .returned (.bool true) ∧ Below w.heap.size w w' := by
  unfold maxLen at h1
  go_enter Try.func5, Try.ntmps5
  go_wp2
  go_ret
  exact ⟨rfl, Below.refl _ _⟩

set_option maxRecDepth 100000 in
set_option maxHeartbeats 400000 in
theorem dig_out (s : ByteArray) (i c : Int) (w : World) (h1 : s.size ≤ 1048576) (h : i < 0 ∨ (s.size : Int) < i) :
    Calls Try.prog 5 #[.string s, .int .i64 i, .int .u8 c] w fun e w' => e = .returned (.bool true) ∧ Below w.heap.size w w' := by
  by_cases h0 : i < 0
  · go_enter Try.func5, Try.ntmps5
    go_wp2
    go_ret
    exact ⟨rfl, Below.refl _ _⟩
  · have h2 : (s.size : Int) < i := by omega
    clear h
    go_enter Try.func5, Try.ntmps5
    go_wp2
    go_ret
    exact ⟨rfl, Below.refl _ _⟩

set_option maxRecDepth 100000 in
set_option maxHeartbeats 1600000 in
theorem dig_law (s : ByteArray) (i : Nat) (c : UInt8) (w : World) (h1 : s.size ≤ 1048576) (hi : i ≤ s.size) :
    Calls Try.prog 5 #[.string s, .int .i64 i, .int .u8 c.toNat] w fun e w' => e = .returned (.bool true) ∧ Below w.heap.size w w' := by
  obtain ⟨i0, hi0, hz0, hz1, hz2⟩ := info_parts Try.info5
  obtain ⟨L, hL⟩ : ∃ L, L = s.data.toList := ⟨_, rfl⟩
  have HL : Hid (L = s.data.toList) := hL
  have HLen : Hid (L.length = s.size) := by rw [hL]; exact len_data s
  clear hL
  go_enter Try.func5, Try.ntmps5
  go_wp2
  go_loop [7, 8, 9] (fun lo hi j => ∃ (k : Nat) (lo' hi' : Int), k ≤ s.size ∧ j = .int .i64 k ∧ lo = .int .u8 lo' ∧ hi = .int .u8 hi' ∧ Pl.LoHi L k lo' hi') (fun _ _ j => s.size - (intOf j).toNat)
  case atStart => exact ⟨0, 255, 0, Nat.zero_le _, rfl, rfl, rfl, Pl.LoHi.start L⟩
  case round =>
    obtain ⟨k, lo, hi', hk, rfl, rfl, rfl, hlh⟩ := hrel
    by_cases hlt : k < s.size
    · have HN := hlh.next (b := (s[k].toNat : Int)) (by rw [HL.out, byte_getD s k hlt])
      by_cases hb1 : (s[k].toNat : Int) < lo
      · by_cases hb2 : hi' < (s[k].toNat : Int)
        · rw [if_pos hb1, if_pos hb2] at HN
          go_wp2
          go_round
          case rel => exact ⟨k + 1, _, _, by omega, by go_num, rfl, rfl, HN⟩
          case measure => simp [intOf]; omega
        · rw [if_pos hb1, if_neg hb2] at HN
          go_wp2
          go_round
          case rel => exact ⟨k + 1, _, _, by omega, by go_num, rfl, rfl, HN⟩
          case measure => simp [intOf]; omega
      · by_cases hb2 : hi' < (s[k].toNat : Int)
        · rw [if_neg hb1, if_pos hb2] at HN
          go_wp2
          go_round
          case rel => exact ⟨k + 1, _, _, by omega, by go_num, rfl, rfl, HN⟩
          case measure => simp [intOf]; omega
        · rw [if_neg hb1, if_neg hb2] at HN
          go_wp2
          go_round
          case rel => exact ⟨k + 1, _, _, by omega, by go_num, rfl, rfl, HN⟩
          case measure => simp [intOf]; omega
    · have hkn : k = s.size := by omega
      have HW : Hid (Pl.dg L = (decide (0 < s.size) && decide (48 ≤ lo) && decide (hi' ≤ 57))) := by
        have e := HLen.out
        rw [hkn, ← e] at hlh
        have := hlh.want
        rw [e] at this
        exact this
      clear hkn hlh hk
      go_upto_region 16 with fail
      go_cut [10] (fun s10 wx => s10 = .bool (Pl.dg L) ∧ w = wx)
      case first =>
        by_cases hp : 0 < s.size
        · by_cases hlo : 48 ≤ lo
          · by_cases hhi : hi' ≤ 57
            · go_wp2
              go_meet
              exact ⟨val_bool (by rw [HW.out]; simp [hp, hlo, hhi]), rfl⟩
            · go_wp2
              go_meet
              exact ⟨val_bool (by rw [HW.out]; simp [show ¬ hi' ≤ 57 by omega]), rfl⟩
          · go_wp2
            go_meet
            exact ⟨val_bool (by rw [HW.out]; simp [show ¬ 48 ≤ lo by omega]), rfl⟩
        · go_wp2
          go_meet
          exact ⟨val_bool (by rw [HW.out]; simp [hp]), rfl⟩
      case rest =>
      obtain ⟨rfl, rfl⟩ := hcut
      clear HW
      go_wp2_with fail
      refine (zzDigits_any s _ (by unfold maxLen; omega)).mono ?_
      rintro e w' ⟨rfl, rfl⟩
      rw [← HL.out]
      go_upto_region 18 with fail
      go_cut [12] (fun s12 wx => s12 = .bool (decide (i = 0) || Pl.dg (L.take i)) ∧ w' = wx)
      case first =>
        by_cases hi1 : i = 0
        · have hb : ((i : Int) == 0) = true := by simp [hi1]
          go_wp2
          go_meet
          exact ⟨val_bool (by simp [hi1]), rfl⟩
        · have hb : ((i : Int) == 0) = false := by simp; omega
          go_wp2_with fail
          refine (zzDigits_any (s.extract 0 i) _ (by simp [maxLen]; omega)).mono ?_
          rintro e w' ⟨rfl, rfl⟩
          go_wp2
          go_meet
          exact ⟨val_bool (by rw [HL.out]; simp [hi1]), rfl⟩
      case rest =>
      obtain ⟨rfl, rfl⟩ := hcut
      go_upto_region 19 with fail
      go_cut [13] (fun s13 wx => s13 = .bool (decide (i = L.length) || Pl.dg (L.drop i)) ∧ w' = wx)
      case first =>
        by_cases hi1 : i = s.size
        · have hb : ((i : Int) == (s.size : Int)) = true := by simp [hi1]
          go_wp2
          go_meet
          exact ⟨val_bool (by rw [HLen.out]; simp [hi1]), rfl⟩
        · have hb : ((i : Int) == (s.size : Int)) = false := by simp; omega
          go_wp2_with fail
          refine (zzDigits_any (s.extract i s.size) _ (by simp [maxLen]; omega)).mono ?_
          rintro e w' ⟨rfl, rfl⟩
          go_wp2
          go_meet
          exact ⟨val_bool (by rw [HLen.out, HL.out, List.take_of_length_le (by simp)]; simp [hi1]), rfl⟩
      case rest =>
      obtain ⟨rfl, rfl⟩ := hcut
      -- t := make([]byte, 0, len(s)+1), and what is put into it
      go_wp2_with (at_make; refine wpList_make_own _ rfl _ _ 22 rfl w'.heap.size 5 i0 (.int .u8 0) 1 Try.underlying22 hi0 hz0 hz1 _ _ _ (s.size + 1) rfl rfl ?mC ?mb2 ?mb3 ?mb4 ?_)
      case mC => omega
      case mb2 => rw [hz2]; omega
      case mb3 => unfold maxLen; omega
      case mb4 => exact Nat.le_refl _
      intro W3 hown3 hgrow3
      have hb3 : Below w'.heap.size w' W3 := (Below.refl _ _).grown hgrow3 (Nat.le_refl _) (fun k hk => by cases hk)
      obtain ⟨v3, hv3⟩ : ∃ v3, v3 = Value.slice (some ⟨w'.heap.size, 0, none⟩) 0 (s.size + 1) := ⟨_, rfl⟩
      rw [← hv3] at hown3 ⊢
      have HO3 : Hid (Owns W3 w'.heap.size v3 []) := hown3
      have HB3 : Hid _ := hb3
      clear hown3 hgrow3 hv3 hb3
      go_wp2_with (at_builtin; refine app_str _ rfl (.tmp 90) (.tmp 93) rfl w'.heap.size _ [] rfl HO3.out (s.extract 0 i) rfl ?a1 ?a2 w' HB3.out ?_)
      case a1 => simp; omega
      case a2 => exact HB3.out.size
      intro v4 W4 HO4' HB4
      have HO4 : Hid (Owns W4 w'.heap.size v4 (L.take i)) := Owns.cast HO4'.out (by rw [HL.out]; try simp)
      clear HO3 HB3 HO4'
      go_wp2_with (at_builtin; refine app_one _ rfl (.tmp 95) (.tmp 97) rfl w'.heap.size _ (L.take i) rfl (HO4.out.alloc _) ⟨W4.heap.size, 0, none⟩ _ c rfl rfl (cell_one_new _ _ _) ?b1 ?b2 w' ?b3 ?_)
      case b1 => have := HLen.out; simp; omega
      case b2 => have := HB4.out.size; simp; omega
      case b3 => exact HB4.out.alloc HB4.out.size _
      intro v5 W5 HO5 HB5
      clear HO4 HB4
      go_wp2_with (at_builtin; refine app_str _ rfl (.tmp 99) (.tmp 102) rfl w'.heap.size _ (L.take i ++ [c]) rfl HO5.out (s.extract i s.size) rfl ?c1 ?c2 w' HB5.out ?_)
      case c1 => have := HLen.out; simp; omega
      case c2 => exact HB5.out.size
      intro v6 W6 HO6' HB6
      have HO6 : Hid (Owns W6 w'.heap.size v6 (L.take i ++ [c] ++ L.drop i)) := Owns.cast HO6'.out (by rw [HL.out]; simp [List.take_of_length_le])
      clear HO6'
      obtain ⟨t, ht⟩ : ∃ t : ByteArray, t = ⟨(L.take i ++ [c] ++ L.drop i).toArray⟩ := ⟨_, rfl⟩
      have hconv := Owns.conv HO6.out (by simp; omega)
      rw [← ht] at hconv
      obtain ⟨g6, c6, hv6, -⟩ := Owns.some HO6.out (by simp; omega)
      obtain ⟨m6, hm6⟩ : ∃ m6, m6 = (L.take i ++ [c] ++ L.drop i).length := ⟨_, rfl⟩
      rw [← hm6] at hv6
      clear hm6
      have HT : Hid (t.data.toList = L.take i ++ [c] ++ L.drop i) := by rw [ht]; rfl
      have HTS : Hid (t.size ≤ maxLen) := by
        show _ ≤ _
        have := HLen.out
        rw [ht, list_size]
        unfold maxLen
        simp
        omega
      clear HO5 HB5 HO6 ht
      rw [hv6] at hconv ⊢
      clear hv6
      go_wp2_with fail
      refine (zzDigits_any t _ HTS.out).mono ?_
      rintro e w9 ⟨rfl, rfl⟩
      have hA : s.size = 0 → Pl.dg L = false ∧ Pl.dg t.data.toList = Pl.isd c := by
        intro h0
        have e : L = [] := List.eq_nil_of_length_eq_zero (by rw [HLen.out]; exact h0)
        rw [HT.out, Pl.dg_ins, e]
        exact ⟨rfl, by simp [Pl.dg]⟩
      have hB : 0 < s.size → Pl.dg L = ((decide (i = 0) || Pl.dg (L.take i)) && (decide (i = L.length) || Pl.dg (L.drop i))) ∧ Pl.dg t.data.toList = (Pl.dg L && Pl.isd c) := by
        intro h0
        refine ⟨Pl.dg_cut L i (by rw [HLen.out]; exact hi) (by rw [HLen.out]; exact h0), ?_⟩
        rw [HT.out, Pl.dg_ins]
        have := HLen.out
        simp [show ¬ L.length = 0 by omega]
      obtain ⟨IB, hIB⟩ : ∃ b, b = Pl.dg t.data.toList := ⟨_, rfl⟩
      obtain ⟨LB, hLB⟩ : ∃ b, b = (decide (i = 0) || Pl.dg (L.take i)) := ⟨_, rfl⟩
      obtain ⟨RB, hRB⟩ : ∃ b, b = (decide (i = L.length) || Pl.dg (L.drop i)) := ⟨_, rfl⟩
      obtain ⟨WB, hWB⟩ : ∃ b, b = Pl.dg L := ⟨_, rfl⟩
      rw [← hIB, ← hWB] at hA
      rw [← hIB, ← hLB, ← hRB, ← hWB] at hB
      rw [← hIB, ← hLB, ← hRB, ← hWB]
      have HA : Hid _ := hA
      have HBB : Hid _ := hB
      clear hA hB hIB hLB hRB hWB hconv HT HTS HL HLen
      go_upto_region 25 with fail
      go_cut [16] (fun s16 wx => s16 = .bool (Pl.isd c) ∧ w9 = wx)
      case first =>
        by_cases hc1 : (48 : Int) ≤ (c.toNat : Int)
        · by_cases hc2 : (c.toNat : Int) ≤ 57
          · go_wp2
            go_meet
            exact ⟨val_bool (by simp [Pl.isd]; omega), rfl⟩
          · go_wp2
            go_meet
            exact ⟨val_bool (by simp [Pl.isd]; omega), rfl⟩
        · go_wp2
          go_meet
          exact ⟨val_bool (by simp [Pl.isd]; omega), rfl⟩
      case rest =>
      obtain ⟨rfl, rfl⟩ := hcut
      obtain ⟨CB, hCB⟩ : ∃ b, b = Pl.isd c := ⟨_, rfl⟩
      rw [← hCB]
      by_cases h0 : s.size = 0
      · obtain ⟨e1, e2⟩ := HA.out h0
        rw [← hCB] at e2
        subst e1 e2
        clear HA HBB hCB
        have hz : ((s.size : Int) == 0) = true := by simp [h0]
        go_wp2
        go_ret
        exact ⟨ret_bool (by simp), HB6.out⟩
      · obtain ⟨e1, e2⟩ := HBB.out (by omega)
        rw [← hCB] at e2
        subst e1 e2
        clear HA HBB hCB
        have hz : ((s.size : Int) == 0) = false := by rw [beq_eq_false_iff_ne]; omega
        cases LB
        · go_wp2
          go_ret
          exact ⟨ret_bool (by simp), HB6.out⟩
        · cases RB
          · go_wp2
            go_ret
            exact ⟨ret_bool (by simp), HB6.out⟩
          · go_wp2
            go_ret
            exact ⟨ret_bool (by simp), HB6.out⟩

end Go.Proofs.Qxb6617881a
